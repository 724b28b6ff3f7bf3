/- The switch of a ClientHello's unmarshal: lists of numbers. The switch of a ClientHello's unmarshal: key shares. No statement of the seat is proved here. -/
import Derived.Test.YtopcljikkdlffaaGreatX09
namespace Go.Proofs.YtopcljikkdlffaaGreat
open Go.RowKit

set_option maxRecDepth 100000 in
set_option maxHeartbeats 8000000 in
theorem ch_sw_50 {w0 w : World} {C : Array Value} {g m eB tB dB mb : Nat} {seen : List Nat} {ex : List UInt8} {f : CH} {d : List UInt8} (z : Nat → Value) (hsz : f.sigsC.length + d.length ≤ 4294967296)
    (hB : Bn w0 C g m (chBs C g m eB tB ex 50 f ++ [(dB, [.vw d])]) (some (mb, seen)) w) :
    Code.wp Tryz.prog chSwitch (ChSw w0 C g m eB dB mb seen (chBs C g m eB tB ex 50) f 50 d ex) ⟨#[.pointer (some ⟨m, 0, none⟩), z 1, z 2, z 3, z 4, z 5, z 6, z 7, .pointer (some ⟨eB, 0, none⟩), .map (some mb), z 10, .pointer (some ⟨dB, 0, none⟩), z 12, z 13, z 14, z 15, z 16, z 17, z 18, z 19, z 20, z 21, z 22, z 23, z 24, z 25, z 26, z 27, z 28, z 29, z 30, z 31, z 32, z 33, z 34, z 35, z 36, z 37, z 38, z 39, z 40, z 41, z 42, z 43, z 44, z 45, z 46, z 47, z 48, z 49, z 50, z 51, z 52, z 53, z 54, z 55, z 56, z 57, z 58, z 59, z 60, z 61, z 62, z 63, z 64, z 65, z 66, z 67, z 68, z 69, z 70, z 71, z 72, z 73, z 74, z 75, z 76, z 77, z 78, z 79, z 80, z 81, z 82, z 83, z 84, z 85, z 86, z 87, z 88, z 89, z 90, z 91, z 92, z 93, z 94, z 95, z 96, z 97, z 98, z 99, z 100, z 101, z 102, z 103, z 104, z 105, z 106, z 107, z 108, z 109, z 110, z 111, z 112, z 113, z 114, z 115, z 116, z 117, z 118, z 119, z 120, z 121, z 122, z 123, z 124, z 125, z 126, z 127, z 128, .int .u16 50, z 130, z 131, z 132, z 133, z 134, z 135, z 136, z 137, z 138, z 139, z 140, z 141, z 142, z 143, z 144, z 145, z 146, z 147, z 148, z 149, z 150, z 151, z 152, z 153, z 154, z 155, z 156, z 157, z 158, z 159, z 160, z 161, z 162, z 163, z 164, z 165, z 166, z 167, z 168, z 169, z 170, z 171, z 172, z 173, z 174, z 175, z 176, z 177, z 178, z 179, z 180, z 181, z 182, z 183, z 184, z 185, z 186, z 187, z 188, z 189, z 190, z 191, z 192, z 193, z 194, z 195, z 196, z 197, z 198, z 199, z 200, z 201, z 202, z 203, z 204, z 205, z 206, z 207, z 208, z 209, z 210, z 211, z 212, z 213, z 214, z 215, z 216, z 217, z 218, z 219, z 220, z 221, z 222, z 223, z 224, z 225, z 226, z 227, z 228, z 229, z 230, z 231, z 232, z 233, z 234, z 235, z 236, z 237, z 238, z 239, z 240, z 241, z 242, z 243, z 244, z 245, z 246, z 247, z 248, z 249, z 250, z 251, z 252, z 253, z 254, z 255, z 256, z 257, z 258, z 259, z 260, z 261, z 262, z 263, z 264, z 265, z 266, z 267, z 268, z 269, z 270, z 271, z 272, z 273, z 274, z 275, z 276, z 277, z 278, z 279, z 280, z 281, z 282, z 283, z 284, z 285, z 286, z 287, z 288, z 289, z 290, z 291, z 292, z 293, z 294, z 295, z 296, z 297, z 298, z 299, z 300, z 301, z 302, z 303, z 304, z 305, z 306, z 307, z 308, z 309, z 310, z 311, z 312, z 313, z 314, z 315, z 316, z 317, z 318, z 319, z 320, z 321, z 322, z 323, z 324, z 325, z 326, z 327, z 328, z 329, z 330, z 331, z 332, z 333, z 334, z 335, z 336, z 337, z 338, z 339, z 340, z 341, z 342, z 343, z 344, z 345, z 346, z 347, z 348, z 349, z 350, z 351, z 352, z 353, z 354, z 355, z 356, z 357, z 358, z 359, z 360, z 361, z 362, z 363, z 364, z 365, z 366, z 367, z 368, z 369, z 370, z 371, z 372, z 373, z 374, z 375, z 376, z 377, z 378, z 379, z 380, z 381, z 382, z 383, z 384, z 385, z 386, z 387, z 388, z 389, z 390, z 391, z 392, z 393, z 394, z 395, z 396, z 397, z 398, z 399, z 400, z 401, z 402, z 403, z 404, z 405, z 406, z 407, z 408, z 409, z 410, z 411, z 412, z 413, z 414, z 415, z 416, z 417, z 418, z 419, z 420, z 421, z 422, z 423, z 424, z 425, z 426, z 427, z 428, z 429, z 430, z 431, z 432, z 433, z 434, z 435, z 436, z 437, z 438, z 439, z 440, z 441, z 442, z 443, z 444, z 445, z 446, z 447, z 448, z 449, z 450, z 451, z 452, z 453, z 454, z 455, z 456, z 457, z 458, z 459, z 460, z 461, z 462, z 463, z 464, z 465, z 466, z 467, z 468, z 469, z 470, z 471, z 472, z 473, z 474, z 475, z 476, z 477, z 478, z 479, z 480, z 481, z 482, z 483, z 484, z 485, z 486, z 487, z 488, z 489, z 490, z 491, z 492, z 493, z 494, z 495, z 496, z 497, z 498, z 499], []⟩ w := by
  have HB := Lib.hid hB
  clear hB
  conv => arg 2; whnf
  go_wp2_with fail
  obtain ⟨sB, hsB⟩ : ∃ x, x = w.heap.size := ⟨_, rfl⟩
  have HB1 := Lib.hid (HB.out.one (.slice none 0 0) 69 .any rfl trivial)
  rw [← hsB] at HB1 ⊢
  clear hsB
  cases hr : rdv 2 d with
  | none =>
    have HR := Lib.hid hr
    clear hr
    refine (br16_no HB1.out HR.out (b := 3) (i := 0) rfl rfl _).mono ?_
    rintro e wx ⟨rfl, hf⟩
    have HF := Lib.hid hf
    clear hf
    go_wp2_with fail
    exact ⟨rfl, rfl, .inl ⟨rfl, by simp [chExt, HR.out], rfl, HF.out⟩⟩
  | some y =>
    obtain ⟨L, r⟩ := y
    have HR := Lib.hid hr
    have hLd : L.length ≤ d.length := by rw [(rdv_some hr).1]; simp; omega
    clear hr
    refine (br16 HB1.out HR.out (b := 3) (i := 0) rfl rfl (c := 4) (j := 0) rfl rfl (.vw L) rfl (fun _ h => h) (by decide)).mono ?_
    rintro e w1 ⟨rfl, hb⟩
    have hb : Bn w0 C g m (chBs C g m eB tB ex 50 f ++ [(dB, [.vw r]), (sB, [.vw L])]) (some (mb, seen)) w1 := hb
    have HB2 := Lib.hid hb
    obtain ⟨vs, hvs, hV⟩ := hb.vw (b := 4) (i := 0) rfl rfl
    have HV := Lib.hid hV
    clear hb hV
    go_wp2_with fail
    refine (empty_any _ HV.out).mono ?_
    rintro e w2 ⟨rfl, rfl⟩
    by_cases h0 : L = []
    · subst h0
      simp only [List.isEmpty_nil]
      go_wp2_with fail
      exact ⟨rfl, rfl, .inl ⟨rfl, by simp [chExt, HR.out], rfl, HB2.out.fs⟩⟩
    · have he0 : L.isEmpty = false := by simpa using h0
      rw [he0]
      have H0 := Lib.hid h0
      clear h0 he0 hvs HV
      go_wp2_with fail
      go_loopw [] (fun wr => ∃ (don : List Nat) (s : List UInt8) (n : Nat), Bn w0 C g m (chBs C g m eB tB ex 50 { f with sigsC := f.sigsC ++ don } ++ [(dB, [.vw r]), (sB, [.vw s])]) (some (mb, seen)) wr ∧ s.length ≤ n ∧
        (twords n s).map (don ++ ·) = twords L.length L ∧ don.length + s.length ≤ L.length) (fun wr => cellLen wr sB)
      case atStart =>
        exact ⟨[], L, L.length, by rw [List.append_nil]; exact HB2.out, Nat.le_refl _, by simp, by simp⟩
      case round =>
        obtain ⟨don, s, n, hb, hn, htv, hlen⟩ := hrel
        obtain ⟨S, hS⟩ : ∃ S, S = f.sigsC ++ don := ⟨_, rfl⟩
        have hSl : S.length ≤ f.sigsC.length + don.length := by rw [hS]; simp
        rw [← hS] at hb
        have HSS := Lib.hid hS
        clear hS
        have HB3 := Lib.hid hb
        have HTV := Lib.hid htv
        have HCL := Lib.hid (hb.len (b := 4) (F := []) rfl)
        obtain ⟨vs, hvs, hV⟩ := hb.vw (b := 4) (i := 0) rfl rfl
        have HV := Lib.hid hV
        clear hb htv hV
        go_wp2_with fail
        refine (empty_any _ HV.out).mono ?_
        rintro e w2 ⟨rfl, rfl⟩
        by_cases hs0 : s = []
        · subst hs0
          have hT : twords L.length L = some don := by
            have h := HTV.out
            rw [twords_nil] at h
            simpa using h.symm
          have HT := Lib.hid hT
          clear hT
          simp only [List.isEmpty_nil]
          go_wp2_with fail
          exact ⟨rfl, rfl, .inr ⟨{ f with sigsC := S }, r, by simp [chExt, HR.out, H0.out, HT.out, HSS.out], ⟨rfl, rfl, rfl, rfl⟩, .inr ⟨rfl, rfl, HB3.out.take 4⟩⟩⟩
        · have he0 : s.isEmpty = false := by simpa using hs0
          rw [he0]
          obtain ⟨n, rfl⟩ : ∃ n', n = n' + 1 := ⟨n - 1, by have := List.length_pos_iff.2 hs0; omega⟩
          have HTV2 := Lib.hid (twords_succ (n := n) hs0)
          clear he0 hs0 hvs HV
          go_wp2_with fail
          obtain ⟨vB, hvB⟩ : ∃ x, x = wr.heap.size := ⟨_, rfl⟩
          have HB4 := Lib.hid (HB3.out.one (.int .u16 0) 23 .any rfl trivial)
          rw [← hvB] at HB4 ⊢
          clear hvB
          cases hr2 : rd 2 s with
          | none =>
            have hx : chExt f 50 d ex = none := by
              have h := HTV.out
              rw [HTV2.out, hr2] at h
              simp [chExt, HR.out, H0.out, ← h]
            have HX := Lib.hid hx
            have HR2 := Lib.hid hr2
            clear hr2 hx
            refine (bru16_no HB4.out HR2.out (b := 4) (i := 0) rfl rfl _).mono ?_
            rintro e w3 ⟨rfl, hf⟩
            have HF := Lib.hid hf
            clear hf
            go_wp2_with fail
            exact ⟨rfl, rfl, .inl ⟨rfl, HX.out, rfl, HF.out⟩⟩
          | some y =>
            obtain ⟨x, s2⟩ := y
            have hxl : s.length = 2 + s2.length := by
              obtain ⟨e1, e2⟩ := rd_some hr2
              rw [e1, List.length_append, e2]
            have HTV4 : Hid (((twords n s2).map (be x :: ·)).map (don ++ ·) = twords L.length L) := by
              rw [← HTV.out, HTV2.out, hr2]; rfl
            have HR2 := Lib.hid hr2
            clear hr2
            refine (bru16 HB4.out HR2.out (b := 4) (i := 0) rfl rfl (c := 5) (j := 0) rfl rfl (by decide)).mono ?_
            rintro e w3 ⟨rfl, hb⟩
            have hb : Bn w0 C g m (chBs C g m eB tB ex 50 { f with sigsC := S } ++ [(dB, [.vw r]), (sB, [.vw s2]), (vB, [.val (.int .u16 (be x : Nat))])]) (some (mb, seen)) w3 := hb
            have HB6 := Lib.hid hb
            have hu := hb.val (b := 5) (i := 0) rfl rfl
            clear hb
            go_wp2_with fail
            obtain ⟨i0, hi, hz0, hz1, hz2⟩ := info_parts Tryz.info23b
            obtain ⟨vf, us, v', w', hvf, ⟨ao, co, rfl⟩, hRold, hrun, hv4, hz4, ⟨ao', co', rfl⟩, hoth, hB'⟩ := (((HB6.out.drew).push (.cells #[.int .u16 (be x : Nat)] 23)).grow (b := 0) (i := 13) rfl rfl 24 24 i0 (.int .u16 0) 2 Tryz.underlying24 hi hz0 hz1 hz2 rfl (by decide) ⟨w3.heap.size, 0, none⟩ 1 1 [.int .u16 (be x : Nat)] rfl
              (fun j u hu => by
                match j, hu with
                | 0, hu => simp at hu; subst hu; exact World.cell?_alloc_new _ _ _ _) (fun u hu => by simp at hu; subst hu; rfl) (by show S.length + 1 ≤ maxLen; unfold maxLen; omega) (by show (S.length + 1) * 2 ≤ 140737488355328; omega))
            have hvf0 : w3.cell? ⟨m, 13, none⟩ = some (.slice ao S.length co) := by
              rw [← hvf]; exact (World.cell?_alloc_lt _ _ _ (HB6.out.lt (b := 0) rfl)).symm
            have hq4 : w'.cell? ⟨vB, 0, none⟩ = some (.int .u16 (be x : Nat)) := ((hoth 5 _ _ 0 rfl).trans (World.cell?_alloc_lt _ _ _ (HB6.out.lt (b := 5) rfl))).trans hu
            have HN := Lib.hid (hB' (ShowU (S ++ [be x])) (S ++ [be x]).length (by simp) (hRold.1.snoc))
            have HRUN := Lib.hid hrun
            have hml0 := HB6.out.lt (b := 0) rfl
            have hql0 := HB6.out.lt (b := 5) rfl
            clear hrun hoth hB' hRold hvf
            refine region_ord [(0, true), (1, true), (2, true), (3, true), (4, true), (5, true), (6, false), (7, false), (8, true), (9, true), (10, false)] (fun w' => w'.cell? ⟨m, 13, none⟩ = some (.slice ao S.length co) ∧ w'.cell? ⟨vB, 0, none⟩ = some (.int .u16 (be x : Nat))) mixed (by kernel_rfl) (by kernel_rfl) rfl (fun c' a' d' v' w' h => (ChSw_panic h).elim) ⟨hvf0, hu⟩ ?_
            iterate 6 (apply wpOrd_pure rfl rfl; apply Exists.intro; refine ⟨fun w' hS => ?_, ?_⟩; (· (have hS1 := hS.1; have hS2 := hS.2; clear hS; first | (go_simp; done) | (go_simp; with_reducible rfl))); simp only [List.getElem_toArray, List.getElem_cons_succ, List.getElem_cons_zero, Act.put, List.setIfInBounds_toArray, List.set_cons_zero, List.set_cons_succ])
            refine wpOrd_run rfl rfl (fun K hK => ?_)
            go_simp
            refine hK _ _ (fun _ => ⟨(World.cell?_alloc_lt _ _ _ hml0).trans hvf0, (World.cell?_alloc_lt _ _ _ hql0).trans hu⟩) ?_
            clear hK K
            refine wpOrd_run rfl rfl (fun K hK => ?_)
            refine wp_append_run (.tmp 275) (.tmp 277) 24 rfl _ _ rfl rfl HRUN.out ?_
            refine hK _ _ (fun _ => ⟨hv4, hq4⟩) ?_
            clear hK K
            simp only [List.getElem_toArray, List.getElem_cons_succ, List.getElem_cons_zero, Act.put, List.setIfInBounds_toArray, List.set_cons_zero, List.set_cons_succ]
            iterate 2 (apply wpOrd_pure rfl rfl; apply Exists.intro; refine ⟨fun w' hS => ?_, ?_⟩; (· (have hS1 := hS.1; have hS2 := hS.2; clear hS; first | (go_simp; done) | (go_simp; with_reducible rfl))); simp only [List.getElem_toArray, List.getElem_cons_succ, List.getElem_cons_zero, Act.put, List.setIfInBounds_toArray, List.set_cons_zero, List.set_cons_succ])
            refine wpOrd_last rfl rfl (by kernel_rfl) (fun K hK => ?_)
            simp only [List.getElem_toArray, List.getElem_cons_succ, List.getElem_cons_zero]
            go_simp
            refine hK _ _ ?_
            refine wpOrd_nil ?_
            clear hK K
            have HB7 := HN
            clear HN HRUN hv4 hz4 hq4 hvf0

            go_wp2_with fail
            have hb : Bn w0 C g m (chBs C g m eB tB ex 50 { f with sigsC := S ++ [be x] } ++ [(dB, [.vw r]), (sB, [.vw s2]), (vB, [.val (.int .u16 (be x : Nat))])]) (some (mb, seen)) _ := HB7.out
            refine ⟨⟨don ++ [be x], s2, n, ?_, by omega, ?_, by simp; omega⟩, ?_⟩
            · rw [← List.append_assoc, ← HSS.out]; exact hb.take 5
            · rw [← HTV4.out]; cases twords n s2 <;> simp
            · rw [hb.len (b := 4) (F := []) rfl, HCL.out]; omega

set_option maxRecDepth 100000 in
set_option maxHeartbeats 8000000 in
theorem ch_sw_43 {w0 w : World} {C : Array Value} {g m eB tB dB mb : Nat} {seen : List Nat} {ex : List UInt8} {f : CH} {d : List UInt8} (z : Nat → Value) (hsz : f.vers13.length + d.length ≤ 4294967296)
    (hB : Bn w0 C g m (chBs C g m eB tB ex 43 f ++ [(dB, [.vw d])]) (some (mb, seen)) w) :
    Code.wp Tryz.prog chSwitch (ChSw w0 C g m eB dB mb seen (chBs C g m eB tB ex 43) f 43 d ex) ⟨#[.pointer (some ⟨m, 0, none⟩), z 1, z 2, z 3, z 4, z 5, z 6, z 7, .pointer (some ⟨eB, 0, none⟩), .map (some mb), z 10, .pointer (some ⟨dB, 0, none⟩), z 12, z 13, z 14, z 15, z 16, z 17, z 18, z 19, z 20, z 21, z 22, z 23, z 24, z 25, z 26, z 27, z 28, z 29, z 30, z 31, z 32, z 33, z 34, z 35, z 36, z 37, z 38, z 39, z 40, z 41, z 42, z 43, z 44, z 45, z 46, z 47, z 48, z 49, z 50, z 51, z 52, z 53, z 54, z 55, z 56, z 57, z 58, z 59, z 60, z 61, z 62, z 63, z 64, z 65, z 66, z 67, z 68, z 69, z 70, z 71, z 72, z 73, z 74, z 75, z 76, z 77, z 78, z 79, z 80, z 81, z 82, z 83, z 84, z 85, z 86, z 87, z 88, z 89, z 90, z 91, z 92, z 93, z 94, z 95, z 96, z 97, z 98, z 99, z 100, z 101, z 102, z 103, z 104, z 105, z 106, z 107, z 108, z 109, z 110, z 111, z 112, z 113, z 114, z 115, z 116, z 117, z 118, z 119, z 120, z 121, z 122, z 123, z 124, z 125, z 126, z 127, z 128, .int .u16 43, z 130, z 131, z 132, z 133, z 134, z 135, z 136, z 137, z 138, z 139, z 140, z 141, z 142, z 143, z 144, z 145, z 146, z 147, z 148, z 149, z 150, z 151, z 152, z 153, z 154, z 155, z 156, z 157, z 158, z 159, z 160, z 161, z 162, z 163, z 164, z 165, z 166, z 167, z 168, z 169, z 170, z 171, z 172, z 173, z 174, z 175, z 176, z 177, z 178, z 179, z 180, z 181, z 182, z 183, z 184, z 185, z 186, z 187, z 188, z 189, z 190, z 191, z 192, z 193, z 194, z 195, z 196, z 197, z 198, z 199, z 200, z 201, z 202, z 203, z 204, z 205, z 206, z 207, z 208, z 209, z 210, z 211, z 212, z 213, z 214, z 215, z 216, z 217, z 218, z 219, z 220, z 221, z 222, z 223, z 224, z 225, z 226, z 227, z 228, z 229, z 230, z 231, z 232, z 233, z 234, z 235, z 236, z 237, z 238, z 239, z 240, z 241, z 242, z 243, z 244, z 245, z 246, z 247, z 248, z 249, z 250, z 251, z 252, z 253, z 254, z 255, z 256, z 257, z 258, z 259, z 260, z 261, z 262, z 263, z 264, z 265, z 266, z 267, z 268, z 269, z 270, z 271, z 272, z 273, z 274, z 275, z 276, z 277, z 278, z 279, z 280, z 281, z 282, z 283, z 284, z 285, z 286, z 287, z 288, z 289, z 290, z 291, z 292, z 293, z 294, z 295, z 296, z 297, z 298, z 299, z 300, z 301, z 302, z 303, z 304, z 305, z 306, z 307, z 308, z 309, z 310, z 311, z 312, z 313, z 314, z 315, z 316, z 317, z 318, z 319, z 320, z 321, z 322, z 323, z 324, z 325, z 326, z 327, z 328, z 329, z 330, z 331, z 332, z 333, z 334, z 335, z 336, z 337, z 338, z 339, z 340, z 341, z 342, z 343, z 344, z 345, z 346, z 347, z 348, z 349, z 350, z 351, z 352, z 353, z 354, z 355, z 356, z 357, z 358, z 359, z 360, z 361, z 362, z 363, z 364, z 365, z 366, z 367, z 368, z 369, z 370, z 371, z 372, z 373, z 374, z 375, z 376, z 377, z 378, z 379, z 380, z 381, z 382, z 383, z 384, z 385, z 386, z 387, z 388, z 389, z 390, z 391, z 392, z 393, z 394, z 395, z 396, z 397, z 398, z 399, z 400, z 401, z 402, z 403, z 404, z 405, z 406, z 407, z 408, z 409, z 410, z 411, z 412, z 413, z 414, z 415, z 416, z 417, z 418, z 419, z 420, z 421, z 422, z 423, z 424, z 425, z 426, z 427, z 428, z 429, z 430, z 431, z 432, z 433, z 434, z 435, z 436, z 437, z 438, z 439, z 440, z 441, z 442, z 443, z 444, z 445, z 446, z 447, z 448, z 449, z 450, z 451, z 452, z 453, z 454, z 455, z 456, z 457, z 458, z 459, z 460, z 461, z 462, z 463, z 464, z 465, z 466, z 467, z 468, z 469, z 470, z 471, z 472, z 473, z 474, z 475, z 476, z 477, z 478, z 479, z 480, z 481, z 482, z 483, z 484, z 485, z 486, z 487, z 488, z 489, z 490, z 491, z 492, z 493, z 494, z 495, z 496, z 497, z 498, z 499], []⟩ w := by
  have HB := Lib.hid hB
  clear hB
  conv => arg 2; whnf
  go_wp2_with fail
  obtain ⟨sB, hsB⟩ : ∃ x, x = w.heap.size := ⟨_, rfl⟩
  have HB1 := Lib.hid (HB.out.one (.slice none 0 0) 69 .any rfl trivial)
  rw [← hsB] at HB1 ⊢
  clear hsB
  cases hr : rdv 1 d with
  | none =>
    have HR := Lib.hid hr
    clear hr
    refine (br8_no HB1.out HR.out (b := 3) (i := 0) rfl rfl _).mono ?_
    rintro e wx ⟨rfl, hf⟩
    have HF := Lib.hid hf
    clear hf
    go_wp2_with fail
    exact ⟨rfl, rfl, .inl ⟨rfl, by simp [chExt, HR.out], rfl, HF.out⟩⟩
  | some y =>
    obtain ⟨L, r⟩ := y
    have HR := Lib.hid hr
    have hLd : L.length ≤ d.length := by rw [(rdv_some hr).1]; simp; omega
    clear hr
    refine (br8 HB1.out HR.out (b := 3) (i := 0) rfl rfl (c := 4) (j := 0) rfl rfl (.vw L) rfl (fun _ h => h) (by decide)).mono ?_
    rintro e w1 ⟨rfl, hb⟩
    have hb : Bn w0 C g m (chBs C g m eB tB ex 43 f ++ [(dB, [.vw r]), (sB, [.vw L])]) (some (mb, seen)) w1 := hb
    have HB2 := Lib.hid hb
    obtain ⟨vs, hvs, hV⟩ := hb.vw (b := 4) (i := 0) rfl rfl
    have HV := Lib.hid hV
    clear hb hV
    go_wp2_with fail
    refine (empty_any _ HV.out).mono ?_
    rintro e w2 ⟨rfl, rfl⟩
    by_cases h0 : L = []
    · subst h0
      simp only [List.isEmpty_nil]
      go_wp2_with fail
      exact ⟨rfl, rfl, .inl ⟨rfl, by simp [chExt, HR.out], rfl, HB2.out.fs⟩⟩
    · have he0 : L.isEmpty = false := by simpa using h0
      rw [he0]
      have H0 := Lib.hid h0
      clear h0 he0 hvs HV
      go_wp2_with fail
      go_loopw [] (fun wr => ∃ (don : List Nat) (s : List UInt8) (n : Nat), Bn w0 C g m (chBs C g m eB tB ex 43 { f with vers13 := f.vers13 ++ don } ++ [(dB, [.vw r]), (sB, [.vw s])]) (some (mb, seen)) wr ∧ s.length ≤ n ∧
        (twords n s).map (don ++ ·) = twords L.length L ∧ don.length + s.length ≤ L.length) (fun wr => cellLen wr sB)
      case atStart =>
        exact ⟨[], L, L.length, by rw [List.append_nil]; exact HB2.out, Nat.le_refl _, by simp, by simp⟩
      case round =>
        obtain ⟨don, s, n, hb, hn, htv, hlen⟩ := hrel
        obtain ⟨S, hS⟩ : ∃ S, S = f.vers13 ++ don := ⟨_, rfl⟩
        have hSl : S.length ≤ f.vers13.length + don.length := by rw [hS]; simp
        rw [← hS] at hb
        have HSS := Lib.hid hS
        clear hS
        have HB3 := Lib.hid hb
        have HTV := Lib.hid htv
        have HCL := Lib.hid (hb.len (b := 4) (F := []) rfl)
        obtain ⟨vs, hvs, hV⟩ := hb.vw (b := 4) (i := 0) rfl rfl
        have HV := Lib.hid hV
        clear hb htv hV
        go_wp2_with fail
        refine (empty_any _ HV.out).mono ?_
        rintro e w2 ⟨rfl, rfl⟩
        by_cases hs0 : s = []
        · subst hs0
          have hT : twords L.length L = some don := by
            have h := HTV.out
            rw [twords_nil] at h
            simpa using h.symm
          have HT := Lib.hid hT
          clear hT
          simp only [List.isEmpty_nil]
          go_wp2_with fail
          exact ⟨rfl, rfl, .inr ⟨{ f with vers13 := S }, r, by simp [chExt, HR.out, H0.out, HT.out, HSS.out], ⟨rfl, rfl, rfl, rfl⟩, .inr ⟨rfl, rfl, HB3.out.take 4⟩⟩⟩
        · have he0 : s.isEmpty = false := by simpa using hs0
          rw [he0]
          obtain ⟨n, rfl⟩ : ∃ n', n = n' + 1 := ⟨n - 1, by have := List.length_pos_iff.2 hs0; omega⟩
          have HTV2 := Lib.hid (twords_succ (n := n) hs0)
          clear he0 hs0 hvs HV
          go_wp2_with fail
          obtain ⟨vB, hvB⟩ : ∃ x, x = wr.heap.size := ⟨_, rfl⟩
          have HB4 := Lib.hid (HB3.out.one (.int .u16 0) 23 .any rfl trivial)
          rw [← hvB] at HB4 ⊢
          clear hvB
          cases hr2 : rd 2 s with
          | none =>
            have hx : chExt f 43 d ex = none := by
              have h := HTV.out
              rw [HTV2.out, hr2] at h
              simp [chExt, HR.out, H0.out, ← h]
            have HX := Lib.hid hx
            have HR2 := Lib.hid hr2
            clear hr2 hx
            refine (bru16_no HB4.out HR2.out (b := 4) (i := 0) rfl rfl _).mono ?_
            rintro e w3 ⟨rfl, hf⟩
            have HF := Lib.hid hf
            clear hf
            go_wp2_with fail
            exact ⟨rfl, rfl, .inl ⟨rfl, HX.out, rfl, HF.out⟩⟩
          | some y =>
            obtain ⟨x, s2⟩ := y
            have hxl : s.length = 2 + s2.length := by
              obtain ⟨e1, e2⟩ := rd_some hr2
              rw [e1, List.length_append, e2]
            have HTV4 : Hid (((twords n s2).map (be x :: ·)).map (don ++ ·) = twords L.length L) := by
              rw [← HTV.out, HTV2.out, hr2]; rfl
            have HR2 := Lib.hid hr2
            clear hr2
            refine (bru16 HB4.out HR2.out (b := 4) (i := 0) rfl rfl (c := 5) (j := 0) rfl rfl (by decide)).mono ?_
            rintro e w3 ⟨rfl, hb⟩
            have hb : Bn w0 C g m (chBs C g m eB tB ex 43 { f with vers13 := S } ++ [(dB, [.vw r]), (sB, [.vw s2]), (vB, [.val (.int .u16 (be x : Nat))])]) (some (mb, seen)) w3 := hb
            have HB6 := Lib.hid hb
            have hu := hb.val (b := 5) (i := 0) rfl rfl
            clear hb
            go_wp2_with fail
            obtain ⟨i0, hi, hz0, hz1, hz2⟩ := info_parts Tryz.info23b
            obtain ⟨vf, us, v', w', hvf, ⟨ao, co, rfl⟩, hRold, hrun, hv4, hz4, ⟨ao', co', rfl⟩, hoth, hB'⟩ := (((HB6.out.drew).push (.cells #[.int .u16 (be x : Nat)] 23)).grow (b := 0) (i := 19) rfl rfl 24 24 i0 (.int .u16 0) 2 Tryz.underlying24 hi hz0 hz1 hz2 rfl (by decide) ⟨w3.heap.size, 0, none⟩ 1 1 [.int .u16 (be x : Nat)] rfl
              (fun j u hu => by
                match j, hu with
                | 0, hu => simp at hu; subst hu; exact World.cell?_alloc_new _ _ _ _) (fun u hu => by simp at hu; subst hu; rfl) (by show S.length + 1 ≤ maxLen; unfold maxLen; omega) (by show (S.length + 1) * 2 ≤ 140737488355328; omega))
            have hvf0 : w3.cell? ⟨m, 19, none⟩ = some (.slice ao S.length co) := by
              rw [← hvf]; exact (World.cell?_alloc_lt _ _ _ (HB6.out.lt (b := 0) rfl)).symm
            have hq4 : w'.cell? ⟨vB, 0, none⟩ = some (.int .u16 (be x : Nat)) := ((hoth 5 _ _ 0 rfl).trans (World.cell?_alloc_lt _ _ _ (HB6.out.lt (b := 5) rfl))).trans hu
            have HN := Lib.hid (hB' (ShowU (S ++ [be x])) (S ++ [be x]).length (by simp) (hRold.1.snoc))
            have HRUN := Lib.hid hrun
            have hml0 := HB6.out.lt (b := 0) rfl
            have hql0 := HB6.out.lt (b := 5) rfl
            clear hrun hoth hB' hRold hvf
            refine region_ord [(0, true), (1, true), (2, true), (3, true), (4, true), (5, true), (6, false), (7, false), (8, true), (9, true), (10, false)] (fun w' => w'.cell? ⟨m, 19, none⟩ = some (.slice ao S.length co) ∧ w'.cell? ⟨vB, 0, none⟩ = some (.int .u16 (be x : Nat))) mixed (by kernel_rfl) (by kernel_rfl) rfl (fun c' a' d' v' w' h => (ChSw_panic h).elim) ⟨hvf0, hu⟩ ?_
            iterate 6 (apply wpOrd_pure rfl rfl; apply Exists.intro; refine ⟨fun w' hS => ?_, ?_⟩; (· (have hS1 := hS.1; have hS2 := hS.2; clear hS; first | (go_simp; done) | (go_simp; with_reducible rfl))); simp only [List.getElem_toArray, List.getElem_cons_succ, List.getElem_cons_zero, Act.put, List.setIfInBounds_toArray, List.set_cons_zero, List.set_cons_succ])
            refine wpOrd_run rfl rfl (fun K hK => ?_)
            go_simp
            refine hK _ _ (fun _ => ⟨(World.cell?_alloc_lt _ _ _ hml0).trans hvf0, (World.cell?_alloc_lt _ _ _ hql0).trans hu⟩) ?_
            clear hK K
            refine wpOrd_run rfl rfl (fun K hK => ?_)
            refine wp_append_run (.tmp 346) (.tmp 348) 24 rfl _ _ rfl rfl HRUN.out ?_
            refine hK _ _ (fun _ => ⟨hv4, hq4⟩) ?_
            clear hK K
            simp only [List.getElem_toArray, List.getElem_cons_succ, List.getElem_cons_zero, Act.put, List.setIfInBounds_toArray, List.set_cons_zero, List.set_cons_succ]
            iterate 2 (apply wpOrd_pure rfl rfl; apply Exists.intro; refine ⟨fun w' hS => ?_, ?_⟩; (· (have hS1 := hS.1; have hS2 := hS.2; clear hS; first | (go_simp; done) | (go_simp; with_reducible rfl))); simp only [List.getElem_toArray, List.getElem_cons_succ, List.getElem_cons_zero, Act.put, List.setIfInBounds_toArray, List.set_cons_zero, List.set_cons_succ])
            refine wpOrd_last rfl rfl (by kernel_rfl) (fun K hK => ?_)
            simp only [List.getElem_toArray, List.getElem_cons_succ, List.getElem_cons_zero]
            go_simp
            refine hK _ _ ?_
            refine wpOrd_nil ?_
            clear hK K
            have HB7 := HN
            clear HN HRUN hv4 hz4 hq4 hvf0

            go_wp2_with fail
            have hb : Bn w0 C g m (chBs C g m eB tB ex 43 { f with vers13 := S ++ [be x] } ++ [(dB, [.vw r]), (sB, [.vw s2]), (vB, [.val (.int .u16 (be x : Nat))])]) (some (mb, seen)) _ := HB7.out
            refine ⟨⟨don ++ [be x], s2, n, ?_, by omega, ?_, by simp; omega⟩, ?_⟩
            · rw [← List.append_assoc, ← HSS.out]; exact hb.take 5
            · rw [← HTV4.out]; cases twords n s2 <;> simp
            · rw [hb.len (b := 4) (F := []) rfl, HCL.out]; omega

end Go.Proofs.YtopcljikkdlffaaGreat
namespace Go.Proofs.YtopcljikkdlffaaGreat
open Go.RowKit

set_option maxRecDepth 100000 in
set_option maxHeartbeats 8000000 in
theorem ch_sw_51 {w0 w : World} {C : Array Value} {g m eB tB dB mb : Nat} {seen : List Nat} {ex : List UInt8} {f : CH} {d : List UInt8} (z : Nat → Value) (hsz : f.shares.length + d.length ≤ 4294967296)
    (hB : Bn w0 C g m (chBs C g m eB tB ex 51 f ++ [(dB, [.vw d])]) (some (mb, seen)) w) :
    Code.wp Tryz.prog chSwitch (ChSw w0 C g m eB dB mb seen (chBs C g m eB tB ex 51) f 51 d ex) ⟨#[.pointer (some ⟨m, 0, none⟩), z 1, z 2, z 3, z 4, z 5, z 6, z 7, .pointer (some ⟨eB, 0, none⟩), .map (some mb), z 10, .pointer (some ⟨dB, 0, none⟩), z 12, z 13, z 14, z 15, z 16, z 17, z 18, z 19, z 20, z 21, z 22, z 23, z 24, z 25, z 26, z 27, z 28, z 29, z 30, z 31, z 32, z 33, z 34, z 35, z 36, z 37, z 38, z 39, z 40, z 41, z 42, z 43, z 44, z 45, z 46, z 47, z 48, z 49, z 50, z 51, z 52, z 53, z 54, z 55, z 56, z 57, z 58, z 59, z 60, z 61, z 62, z 63, z 64, z 65, z 66, z 67, z 68, z 69, z 70, z 71, z 72, z 73, z 74, z 75, z 76, z 77, z 78, z 79, z 80, z 81, z 82, z 83, z 84, z 85, z 86, z 87, z 88, z 89, z 90, z 91, z 92, z 93, z 94, z 95, z 96, z 97, z 98, z 99, z 100, z 101, z 102, z 103, z 104, z 105, z 106, z 107, z 108, z 109, z 110, z 111, z 112, z 113, z 114, z 115, z 116, z 117, z 118, z 119, z 120, z 121, z 122, z 123, z 124, z 125, z 126, z 127, z 128, .int .u16 51, z 130, z 131, z 132, z 133, z 134, z 135, z 136, z 137, z 138, z 139, z 140, z 141, z 142, z 143, z 144, z 145, z 146, z 147, z 148, z 149, z 150, z 151, z 152, z 153, z 154, z 155, z 156, z 157, z 158, z 159, z 160, z 161, z 162, z 163, z 164, z 165, z 166, z 167, z 168, z 169, z 170, z 171, z 172, z 173, z 174, z 175, z 176, z 177, z 178, z 179, z 180, z 181, z 182, z 183, z 184, z 185, z 186, z 187, z 188, z 189, z 190, z 191, z 192, z 193, z 194, z 195, z 196, z 197, z 198, z 199, z 200, z 201, z 202, z 203, z 204, z 205, z 206, z 207, z 208, z 209, z 210, z 211, z 212, z 213, z 214, z 215, z 216, z 217, z 218, z 219, z 220, z 221, z 222, z 223, z 224, z 225, z 226, z 227, z 228, z 229, z 230, z 231, z 232, z 233, z 234, z 235, z 236, z 237, z 238, z 239, z 240, z 241, z 242, z 243, z 244, z 245, z 246, z 247, z 248, z 249, z 250, z 251, z 252, z 253, z 254, z 255, z 256, z 257, z 258, z 259, z 260, z 261, z 262, z 263, z 264, z 265, z 266, z 267, z 268, z 269, z 270, z 271, z 272, z 273, z 274, z 275, z 276, z 277, z 278, z 279, z 280, z 281, z 282, z 283, z 284, z 285, z 286, z 287, z 288, z 289, z 290, z 291, z 292, z 293, z 294, z 295, z 296, z 297, z 298, z 299, z 300, z 301, z 302, z 303, z 304, z 305, z 306, z 307, z 308, z 309, z 310, z 311, z 312, z 313, z 314, z 315, z 316, z 317, z 318, z 319, z 320, z 321, z 322, z 323, z 324, z 325, z 326, z 327, z 328, z 329, z 330, z 331, z 332, z 333, z 334, z 335, z 336, z 337, z 338, z 339, z 340, z 341, z 342, z 343, z 344, z 345, z 346, z 347, z 348, z 349, z 350, z 351, z 352, z 353, z 354, z 355, z 356, z 357, z 358, z 359, z 360, z 361, z 362, z 363, z 364, z 365, z 366, z 367, z 368, z 369, z 370, z 371, z 372, z 373, z 374, z 375, z 376, z 377, z 378, z 379, z 380, z 381, z 382, z 383, z 384, z 385, z 386, z 387, z 388, z 389, z 390, z 391, z 392, z 393, z 394, z 395, z 396, z 397, z 398, z 399, z 400, z 401, z 402, z 403, z 404, z 405, z 406, z 407, z 408, z 409, z 410, z 411, z 412, z 413, z 414, z 415, z 416, z 417, z 418, z 419, z 420, z 421, z 422, z 423, z 424, z 425, z 426, z 427, z 428, z 429, z 430, z 431, z 432, z 433, z 434, z 435, z 436, z 437, z 438, z 439, z 440, z 441, z 442, z 443, z 444, z 445, z 446, z 447, z 448, z 449, z 450, z 451, z 452, z 453, z 454, z 455, z 456, z 457, z 458, z 459, z 460, z 461, z 462, z 463, z 464, z 465, z 466, z 467, z 468, z 469, z 470, z 471, z 472, z 473, z 474, z 475, z 476, z 477, z 478, z 479, z 480, z 481, z 482, z 483, z 484, z 485, z 486, z 487, z 488, z 489, z 490, z 491, z 492, z 493, z 494, z 495, z 496, z 497, z 498, z 499], []⟩ w := by
  have HB := Lib.hid hB
  clear hB
  conv => arg 2; whnf
  go_wp2_with fail
  obtain ⟨sB, hsB⟩ : ∃ x, x = w.heap.size := ⟨_, rfl⟩
  have HB1 := Lib.hid (HB.out.one (.slice none 0 0) 69 .any rfl trivial)
  rw [← hsB] at HB1 ⊢
  clear hsB
  cases hr : rdv 2 d with
  | none =>
    have HR := Lib.hid hr
    clear hr
    refine (br16_no HB1.out HR.out (b := 3) (i := 0) rfl rfl _).mono ?_
    rintro e wx ⟨rfl, hf⟩
    have HF := Lib.hid hf
    clear hf
    go_wp2_with fail
    exact ⟨rfl, rfl, .inl ⟨rfl, by simp [chExt, HR.out], rfl, HF.out⟩⟩
  | some y =>
    obtain ⟨L, r⟩ := y
    have HR := Lib.hid hr
    have hLd : L.length ≤ d.length := by rw [(rdv_some hr).1]; simp; omega
    clear hr
    refine (br16 HB1.out HR.out (b := 3) (i := 0) rfl rfl (c := 4) (j := 0) rfl rfl (.vw L) rfl (fun _ h => h) (by decide)).mono ?_
    rintro e w1 ⟨rfl, hb⟩
    have hb : Bn w0 C g m (chBs C g m eB tB ex 51 f ++ [(dB, [.vw r]), (sB, [.vw L])]) (some (mb, seen)) w1 := hb
    have HB2 := Lib.hid hb
    clear hb
    go_wp2_with fail
    go_loopw [] (fun wr => ∃ (don : List (Nat × List UInt8)) (s : List UInt8) (n : Nat), Bn w0 C g m (chBs C g m eB tB ex 51 { f with shares := f.shares ++ don } ++ [(dB, [.vw r]), (sB, [.vw s])]) (some (mb, seen)) wr ∧ s.length ≤ n ∧
      (tshares n s).map (don ++ ·) = tshares L.length L ∧ don.length + s.length ≤ L.length) (fun wr => cellLen wr sB)
    case atStart =>
      exact ⟨[], L, L.length, by rw [List.append_nil]; exact HB2.out, Nat.le_refl _, by simp, by simp⟩
    case round =>
      obtain ⟨don, s, n, hb, hn, htv, hlen⟩ := hrel
      obtain ⟨S, hS⟩ : ∃ S, S = f.shares ++ don := ⟨_, rfl⟩
      have hSl : S.length ≤ f.shares.length + don.length := by rw [hS]; simp
      rw [← hS] at hb
      have HSS := Lib.hid hS
      clear hS
      have HB3 := Lib.hid hb
      have HTV := Lib.hid htv
      have HCL := Lib.hid (hb.len (b := 4) (F := []) rfl)
      obtain ⟨vs, hvs, hV⟩ := hb.vw (b := 4) (i := 0) rfl rfl
      have HV := Lib.hid hV
      clear hb htv hV
      go_wp2_with fail
      refine (empty_any _ HV.out).mono ?_
      rintro e w2 ⟨rfl, rfl⟩
      by_cases hs0 : s = []
      · subst hs0
        have hT : tshares L.length L = some don := by
          have h := HTV.out
          rw [tshares_nil] at h
          simpa using h.symm
        have HT := Lib.hid hT
        clear hT
        simp only [List.isEmpty_nil]
        go_wp2_with fail
        exact ⟨rfl, rfl, .inr ⟨{ f with shares := S }, r, by simp [chExt, HR.out, HT.out, HSS.out], ⟨rfl, rfl, rfl, rfl⟩, .inr ⟨rfl, rfl, HB3.out.take 4⟩⟩⟩
      · have he0 : s.isEmpty = false := by simpa using hs0
        rw [he0]
        obtain ⟨n, rfl⟩ : ∃ n', n = n' + 1 := ⟨n - 1, by have := List.length_pos_iff.2 hs0; omega⟩
        have HTV2 := Lib.hid (tshares_succ (n := n) hs0)
        clear he0 hs0 hvs HV
        go_wp2_with fail
        obtain ⟨vB, hvB⟩ : ∃ x, x = wr.heap.size := ⟨_, rfl⟩
        have HB4 := Lib.hid (HB3.out.add #[.int .u16 0, .slice none 0 0] 56 [.any, .any] rfl (fun i fd hi => by
    match i, hi with
    | 0, hi => cases hi; exact ⟨rfl, _, rfl, trivial⟩
    | 1, hi => cases hi; exact ⟨rfl, _, rfl, trivial⟩))
        rw [← hvB] at HB4 ⊢
        clear hvB
        cases hr2 : rd 2 s with
        | none =>
          have hx : chExt f 51 d ex = none := by
            have h := HTV.out
            rw [HTV2.out, hr2] at h
            simp [chExt, HR.out, ← h]
          have HX := Lib.hid hx
          have HR2 := Lib.hid hr2
          clear hr2 hx
          refine (bru16_no HB4.out HR2.out (b := 4) (i := 0) rfl rfl _).mono ?_
          rintro e w3 ⟨rfl, hf⟩
          have HF := Lib.hid hf
          clear hf
          go_wp2_with fail
          exact ⟨rfl, rfl, .inl ⟨rfl, HX.out, rfl, HF.out⟩⟩
        | some y =>
          obtain ⟨t, s1⟩ := y
          have hxl1 : s.length = 2 + s1.length := by
            obtain ⟨e1, e2⟩ := rd_some hr2
            rw [e1, List.length_append, e2]
          have HTV3 : Hid (((rdv 2 s1).bind fun z => if z.1 = [] then none else (tshares n z.2).map ((be t, z.1) :: ·)).map (don ++ ·) = tshares L.length L) := by
            rw [← HTV.out, HTV2.out, hr2]; rfl
          have HR2 := Lib.hid hr2
          clear hr2
          refine (bru16 HB4.out HR2.out (b := 4) (i := 0) rfl rfl (c := 5) (j := 0) rfl rfl (by decide)).mono ?_
          rintro e w3 ⟨rfl, hb⟩
          have hb : Bn w0 C g m (chBs C g m eB tB ex 51 { f with shares := S } ++ [(dB, [.vw r]), (sB, [.vw s1]), (vB, [.val (.int .u16 (be t : Nat)), .any])]) (some (mb, seen)) w3 := hb
          have HB5 := Lib.hid hb
          clear hb
          go_wp2_with fail
          cases hr3 : rdv 2 s1 with
          | none =>
            have hx : chExt f 51 d ex = none := by
              have h := HTV3.out
              rw [hr3] at h
              simp [chExt, HR.out, ← h]
            have HX := Lib.hid hx
            have HR3 := Lib.hid hr3
            clear hr3 hx
            refine (bt16_no HB5.out HR3.out (b := 4) (i := 0) rfl rfl _).mono ?_
            rintro e w4 ⟨rfl, hf⟩
            have HF := Lib.hid hf
            clear hf
            go_wp2_with fail
            exact ⟨rfl, rfl, .inl ⟨rfl, HX.out, rfl, HF.out⟩⟩
          | some y =>
            obtain ⟨x, s2⟩ := y
            have hxl : s1.length = 2 + x.length + s2.length := by rw [(rdv_some hr3).1]; simp [en_length]; omega
            have HTV4 : Hid ((if x = [] then none else (tshares n s2).map ((be t, x) :: ·)).map (don ++ ·) = tshares L.length L) := by
              rw [← HTV3.out, hr3]; rfl
            have HR3 := Lib.hid hr3
            clear hr3
            refine (bt16 HB5.out HR3.out (b := 4) (i := 0) rfl rfl (c := 5) (j := 1) rfl rfl (.vw x) rfl (fun _ h => h) (by decide)).mono ?_
            rintro e w4 ⟨rfl, hb⟩
            have hb : Bn w0 C g m (chBs C g m eB tB ex 51 { f with shares := S } ++ [(dB, [.vw r]), (sB, [.vw s2]), (vB, [.val (.int .u16 (be t : Nat)), .vw x])]) (some (mb, seen)) w4 := hb
            have HB6 := Lib.hid hb
            have hu0 := hb.val (b := 5) (i := 0) rfl rfl
            obtain ⟨u, hu1, hU⟩ := hb.vw (b := 5) (i := 1) rfl rfl
            have HU := Lib.hid hU
            obtain ⟨ou, cu, hus, _⟩ := hU.slice
            subst hus
            clear hb hU
            by_cases hx0 : x = []
            · subst hx0
              have hx : chExt f 51 d ex = none := by
                have h := HTV4.out
                simp at h
                simp [chExt, HR.out, ← h]
              have HX := Lib.hid hx
              clear hx
              go_wp2_with fail
              exact ⟨rfl, rfl, .inl ⟨rfl, HX.out, rfl, HB6.out.fs⟩⟩
            · have hl0 : ¬ x.length = 0 := fun h => hx0 (List.length_eq_zero_iff.1 h)
              have hl1 : ¬ ((x.length : Nat) : Int) = 0 := by omega
              have hl2 : (((x.length : Nat) : Int) == 0) = false := by simpa using hl0
              have HTV5 : Hid (((tshares n s2).map ((be t, x) :: ·)).map (don ++ ·) = tshares L.length L) := by
                have h := HTV4.out
                rwa [if_neg hx0] at h
              clear hx0
              go_wp2_with fail
              obtain ⟨i0, hi, hz0, hz1, hz2⟩ := info_parts Tryz.info56b
              obtain ⟨vf, us, v', w', hvf, ⟨ao, co, rfl⟩, hRold, hrun, hv4, hz4, ⟨ao', co', rfl⟩, hoth, hB'⟩ := (((HB6.out.drew).push (.cells #[Value.int .u16 (be t : Nat), Value.slice (some ⟨g, ou, none⟩) x.length cu] 56)).grow (b := 0) (i := 21) rfl rfl 51 51 i0 (.agg #[.int .u16 0, .slice none 0 0]) 32 Tryz.underlying51 hi hz0 hz1 hz2 rfl (by decide) ⟨w4.heap.size, 0, none⟩ 1 1 [Value.int .u16 (be t : Nat), Value.slice (some ⟨g, ou, none⟩) x.length cu] rfl
                (fun j u hu => by
                  match j, hu with
                  | 0, hu => simp at hu; subst hu; exact (cell_of_heap (heap_alloc_new _ _)).trans rfl
                  | 1, hu => simp at hu; subst hu; exact (cell_of_heap (heap_alloc_new _ _)).trans rfl) (fun u hu => by simp at hu; rcases hu with rfl | rfl <;> rfl) (by show S.length + 1 ≤ maxLen; unfold maxLen; omega) (by show (S.length + 1) * 32 ≤ 140737488355328; omega))
              have hvf0 : w4.cell? ⟨m, 21, none⟩ = some (.slice ao S.length co) := by
                rw [← hvf]; exact (World.cell?_alloc_lt _ _ _ (HB6.out.lt (b := 0) rfl)).symm
              have hq4_0 : w'.cell? ⟨vB, 0, none⟩ = some (Value.int .u16 (be t : Nat)) := ((hoth 5 _ _ 0 rfl).trans (World.cell?_alloc_lt _ _ _ (HB6.out.lt (b := 5) rfl))).trans hu0
              have hq4_1 : w'.cell? ⟨vB, 1, none⟩ = some (Value.slice (some ⟨g, ou, none⟩) x.length cu) := ((hoth 5 _ _ 1 rfl).trans (World.cell?_alloc_lt _ _ _ (HB6.out.lt (b := 5) rfl))).trans hu1
              have HN := Lib.hid (hB' (ShowK C g (S ++ [(be t, x)])) (S ++ [(be t, x)]).length (by simp) (hRold.1.snoc hRold.2 (.inr HU.out)))
              have HRUN := Lib.hid hrun
              have hml0 := HB6.out.lt (b := 0) rfl
              have hql0 := HB6.out.lt (b := 5) rfl
              clear hrun hoth hB' hRold hvf
              refine region_ord [(0, true), (1, true), (2, true), (3, true), (4, true), (5, true), (6, false), (7, false), (8, true), (9, true), (10, false)] (fun w' => w'.cell? ⟨m, 21, none⟩ = some (.slice ao S.length co) ∧ w'.cell? ⟨vB, 0, none⟩ = some (Value.int .u16 (be t : Nat)) ∧ w'.cell? ⟨vB, 1, none⟩ = some (Value.slice (some ⟨g, ou, none⟩) x.length cu)) mixed (by kernel_rfl) (by kernel_rfl) rfl (fun c' a' d' v' w' h => (ChSw_panic h).elim) ⟨hvf0, hu0, hu1⟩ ?_
              iterate 6 (apply wpOrd_pure rfl rfl; apply Exists.intro; refine ⟨fun w' hS => ?_, ?_⟩; (· (have hS1 := hS.1; have hS2 := hS.2.1; have hS3 := hS.2.2; clear hS; first | (go_simp; done) | (go_simp; with_reducible rfl))); simp only [List.getElem_toArray, List.getElem_cons_succ, List.getElem_cons_zero, Act.put, List.setIfInBounds_toArray, List.set_cons_zero, List.set_cons_succ])
              refine wpOrd_run rfl rfl (fun K hK => ?_)
              go_simp
              refine hK _ _ (fun _ => ⟨(World.cell?_alloc_lt _ _ _ hml0).trans hvf0, (World.cell?_alloc_lt _ _ _ hql0).trans hu0, (World.cell?_alloc_lt _ _ _ hql0).trans hu1⟩) ?_
              clear hK K
              refine wpOrd_run rfl rfl (fun K hK => ?_)
              refine wp_append_run (.tmp 392) (.tmp 394) 51 rfl _ _ rfl rfl HRUN.out ?_
              refine hK _ _ (fun _ => ⟨hv4, hq4_0, hq4_1⟩) ?_
              clear hK K
              simp only [List.getElem_toArray, List.getElem_cons_succ, List.getElem_cons_zero, Act.put, List.setIfInBounds_toArray, List.set_cons_zero, List.set_cons_succ]
              iterate 2 (apply wpOrd_pure rfl rfl; apply Exists.intro; refine ⟨fun w' hS => ?_, ?_⟩; (· (have hS1 := hS.1; have hS2 := hS.2.1; have hS3 := hS.2.2; clear hS; first | (go_simp; done) | (go_simp; with_reducible rfl))); simp only [List.getElem_toArray, List.getElem_cons_succ, List.getElem_cons_zero, Act.put, List.setIfInBounds_toArray, List.set_cons_zero, List.set_cons_succ])
              refine wpOrd_last rfl rfl (by kernel_rfl) (fun K hK => ?_)
              simp only [List.getElem_toArray, List.getElem_cons_succ, List.getElem_cons_zero]
              go_simp
              refine hK _ _ ?_
              refine wpOrd_nil ?_
              clear hK K
              have HB7 := HN
              clear HN HRUN hv4 hz4 hq4_0 hq4_1 hvf0
              go_wp2_with fail
              have hb : Bn w0 C g m (chBs C g m eB tB ex 51 { f with shares := S ++ [(be t, x)] } ++ [(dB, [.vw r]), (sB, [.vw s2]), (vB, [.val (.int .u16 (be t : Nat)), .vw x])]) (some (mb, seen)) _ := HB7.out
              refine ⟨⟨don ++ [(be t, x)], s2, n, ?_, by omega, ?_, by simp; omega⟩, ?_⟩
              · rw [← List.append_assoc, ← HSS.out]; exact hb.take 5
              · rw [← HTV5.out]; cases tshares n s2 <;> simp
              · rw [hb.len (b := 4) (F := []) rfl, HCL.out]; omega

end Go.Proofs.YtopcljikkdlffaaGreat
