/- A ServerHello is read by package tls. No statement of the seat is proved here. -/
import Derived.Test.YtopcljikkdlffaaSf
namespace Go.Proofs.Ytopcljikkdlffaa
open Go.RowKit

/-- The cells of a serverHelloMsg that nothing was said of, but for the data. -/
def zero23 (v : Value) : Array Value := #[v, .int .u16 0, .slice none 0 0, .slice none 0 0, .int .u16 0, .int .u8 0, .bool false, .bool false, .bool false, .slice none 0 0, .bool false, .string ⟨#[]⟩, .slice none 0 0, .int .u16 0, .int .u16 0, .slice none 0 0, .bool false, .int .u16 0, .slice none 0 0, .slice none 0 0, .bool false, .slice none 0 0, .int .u16 0]

/-- What a ServerHello's unmarshal leaves. -/
def ShPost (w : World) (C : Array Value) (g m : Nat) (bs : List UInt8) (e : Ending) (w' : World) : Prop :=
  Fs [m] w w' ∧ ((shRead bs = none ∧ e = .returned (.bool false)) ∨ ∃ f, shRead bs = some f ∧ e = .returned (.bool true) ∧ SHAt w' w.heap.size C g m f)

set_option maxRecDepth 100000 in
set_option maxHeartbeats 8000000 in
theorem sh_unmarshal {C : Array Value} {m g : Nat} {T : TypeId} {fr : Nat × Nat} {v : Value} {bs : List UInt8} (w : World) (hm : w.heap[m]? = some (.cells (zero23 (.slice none 0 0)) 131 (0, 0))) (hg : w.heap[g]? = some (.cells C T fr)) (hgm : g ≠ m)
    (hV : View C g v bs) : Calls Try.prog 84 #[.pointer (some ⟨m, 0, none⟩), v] w (ShPost w C g m bs) := by
  obtain ⟨off, cap, rfl, hcl⟩ := hV.slice
  have HV := Lib.hid hV
  have HM := Lib.hid hm
  have hml := lt_of_heap hm
  have hgl := lt_of_heap hg
  obtain ⟨W, hW⟩ : ∃ x, x = w.setRow m (zero23 (.slice (some ⟨g, off, none⟩) bs.length cap)) := ⟨_, rfl⟩
  have hWm : W.heap[m]? = some (.cells (zero23 (.slice (some ⟨g, off, none⟩) bs.length cap)) 131 (0, 0)) := by rw [hW]; exact setRow_heap _ _ _ _ _ _ hm
  have hWf : Fs [m] w W := by rw [hW]; exact ⟨rfl, rfl, rfl, by rw [size_setRow]; exact Nat.le_refl _, fun k _ hn => setRow_other _ _ _ _ (fun e => hn (by simp [e]))⟩
  have hWs : W.heap.size = w.heap.size := by rw [hW, size_setRow]
  have HW := Lib.hid hW
  have hS0 : SHAt W w.heap.size C g m {} := ⟨_, _, _, _, _, _, _, _, _, hWm, ⟨_, _, _, rfl⟩, .inl ⟨rfl, rfl⟩, .inl ⟨rfl, rfl⟩, .inl ⟨rfl, rfl⟩, .inl ⟨rfl, rfl⟩, .inl ⟨rfl, rfl⟩, .inl ⟨rfl, rfl⟩, .inl ⟨rfl, rfl⟩, .inl ⟨rfl, rfl⟩⟩
  have HWF := Lib.hid hWf
  have HGW := Lib.hid ((hWf.keep g hgl (by simpa using hgm)).trans hg)
  obtain ⟨sB, hsB⟩ : ∃ x, x = w.heap.size := ⟨_, rfl⟩
  have hsm : sB ≠ m := by omega
  have hms : m ≠ sB := by omega
  have hgs : g ≠ sB := by omega
  have hWs2 : W.heap.size = sB := by rw [hWs, hsB]
  obtain ⟨W1, hW1⟩ : ∃ x, x = W.alloc (.cells #[.slice (some ⟨g, off, none⟩) bs.length cap] 152) := ⟨_, rfl⟩
  have hf1 : Fs [] W W1 := by rw [hW1]; exact (Fs.refl [] W).push _
  have HS0 := Lib.hid (hS0.fs hf1 (by simp) (Odd.nil _))
  have HD0 : Hid (W1.heap[sB]? = some (.cells #[.slice (some ⟨g, off, none⟩) bs.length cap] 152 (0, 0))) := by
    have h := heap_alloc_new W (.cells #[.slice (some ⟨g, off, none⟩) bs.length cap] 152)
    rw [hWs2] at h
    rw [hW1]; exact h
  have HG0 := Lib.hid ((hf1.keep g (by omega) (by simp)).trans HGW.out)
  have HF0 : Hid (Fs [m, sB] w W1) := (hWf.mono (by simp)).trans (hf1.mono (by simp))
  have HW1 := Lib.hid hW1
  have HSB := Lib.hid hsB
  clear hV hg hm hW hWm hWf hS0 hf1 hW1 hWs hsB
  go_enter Try.func84, Try.ntmps84
  go_upto_region 1 with fail
  apply wp_region_lit
  iterate 12 (first | (refine wpList_store_row rfl 131 (.tmp 17) (.tmp 16) rfl m (zero23 (.slice (some ⟨g, off, none⟩) bs.length cap)) rfl rfl 131 (zero23 (.slice none 0 0)) HM.out (by kernel_rfl) rfl (by simp [zero23, Value.oneCell']) ?_) | go_step)
  refine wpList_store_row rfl 131 (.tmp 17) (.tmp 16) rfl m (zero23 (.slice (some ⟨g, off, none⟩) bs.length cap)) rfl rfl 131 (zero23 (.slice none 0 0)) HM.out (by kernel_rfl) rfl (by simp [zero23, Value.oneCell']) ?_
  rw [← HW.out]
  clear HW HM
  go_wp2_with fail
  rw [← HW1.out]
  have hsz0 : w.heap.size ≤ sB := by have := HSB.out; omega
  clear hWs2 HW1 HGW
  have c0 := cell_head HD0.out
  have z0 : W1.frozen? ⟨sB, 0, none⟩ = false := frozen_of_heap HD0.out
  cases h1 : rd 4 bs with
  | none =>
    have H1 := Lib.hid h1
    have hlt := rd_none h1
    clear h1
    refine (skip_no ⟨sB, 0, none⟩ 4 W1 (by omega) (by omega) hcl c0).mono ?_
    rintro e wx ⟨rfl, rfl⟩
    go_wp2_with fail
    go_ret
    exact ⟨HF0.out.fresh2 hsz0, .inl ⟨by simp [shRead, shHead, H1.out], rfl⟩⟩
  | some y1 =>
    obtain ⟨a1, r1⟩ := y1
    have H1 := Lib.hid h1
    clear h1
    refine (skip_yes ⟨sB, 0, none⟩ 4 W1 (by omega) H1.out HV.out c0 z0).mono ?_
    rintro e w1 ⟨s1, rfl, hv, rfl⟩
    obtain ⟨hs, hd⟩ := sh_left HS0.out HD0.out hms s1
    have HS1 := Lib.hid hs
    have HD1 := Lib.hid hd
    have HV1 := Lib.hid hv
    have HG1 := Lib.hid (heap_past (m := sB) (k := 0) (u := s1) HG0.out (fun e => hgs e.symm))
    have HF1 := Lib.hid (HF0.out.set sB 0 s1 (by simp))
    obtain ⟨w1, hw1⟩ : ∃ x, x = W1.setCell ⟨sB, 0, none⟩ s1 := ⟨_, rfl⟩
    rw [← hw1] at HS1 HD1 HG1 HF1 ⊢
    clear hs hd hv hw1 c0 z0
    have c0 := cell_head HD1.out
    have z0 : w1.frozen? ⟨sB, 0, none⟩ = false := frozen_of_heap HD1.out
    have hq := HS1.out.at_vers
    have hqz := HS1.out.frozen 1
    cases hr : rd 2 r1 with
    | none =>
      have HR := Lib.hid hr
      clear hr
      go_wp2_with fail
      refine (ru16_no ⟨sB, 0, none⟩ _ w1 HR.out HV1.out c0).mono ?_
      rintro e wx ⟨rfl, rfl⟩
      go_wp2_with fail
      go_ret
      exact ⟨HF1.out.fresh2 hsz0, .inl ⟨by simp [shRead, shHead, H1.out, HR.out], rfl⟩⟩
    | some y =>
      obtain ⟨a2, r2⟩ := y
      have H2 := Lib.hid hr
      clear hr
      go_wp2_with fail
      refine (ru16_yes ⟨sB, 0, none⟩ ⟨m, 1, none⟩ w1 H2.out HG1.out HV1.out c0 z0 hq hqz (fun e => hgs e.symm) (by simp [hsm])).mono ?_
      rintro e wx ⟨s2, rfl, hv, rfl⟩
      obtain ⟨hs, hd⟩ := sh_left HS1.out HD1.out hms s2
      have hs2 := hs.set_vers (be a2)
      obtain ⟨w2, hw⟩ : ∃ x, x = ((w1.setCell ⟨sB, 0, none⟩ s2).setCell ⟨m, 1, none⟩ (.int .u16 (be a2 : Nat))).drew := ⟨_, rfl⟩
      have HS2 : Hid (SHAt w2 w.heap.size C g m { vers := be a2 }) := by rw [hw]; exact hs2
      have HD2 : Hid (w2.heap[sB]? = some (.cells #[s2] 152 (0, 0))) := by rw [hw]; exact heap_past hd hms
      have HG2 : Hid (w2.heap[g]? = some (.cells C T fr)) := by rw [hw]; exact heap_past (heap_past HG1.out (fun e => hgs e.symm)) (fun e => hgm e.symm)
      have HF2 : Hid (Fs [m, sB] w w2) := by rw [hw]; exact ((HF1.out.set sB 0 _ (by simp)).set m 1 _ (by simp)).drew
      have HV2 := Lib.hid hv
      rw [← hw]
      clear hs hd hs2 hv hw c0 z0 hq hqz HS1 HD1 HG1 HF1 HV1
      have c0 := cell_head HD2.out
      have z0 : w2.frozen? ⟨sB, 0, none⟩ = false := frozen_of_heap HD2.out
      obtain ⟨vq, hq, _⟩ := HS2.out.at_random
      have hqz := HS2.out.frozen 2
      cases hr : rd 32 r2 with
      | none =>
        have HR := Lib.hid hr
        clear hr
        go_wp2_with fail
        refine (rb_no ⟨sB, 0, none⟩ _ 32 w2 (by omega) HR.out HV2.out c0).mono ?_
        rintro e wx ⟨rfl, rfl⟩
        go_wp2_with fail
        go_ret
        exact ⟨HF2.out.fresh2 hsz0, .inl ⟨by simp [shRead, shHead, H1.out, H2.out, HR.out], rfl⟩⟩
      | some y =>
        obtain ⟨a3, r3⟩ := y
        have H3 := Lib.hid hr
        clear hr
        go_wp2_with fail
        refine (rb_yes ⟨sB, 0, none⟩ ⟨m, 2, none⟩ 32 w2 (by omega) H3.out HV2.out c0 z0 hq hqz (by simp [hsm])).mono ?_
        rintro e wx ⟨u3, s3, rfl, hu, hv, rfl⟩
        obtain ⟨hs, hd⟩ := sh_left HS2.out HD2.out hms s3
        have hs2 := hs.set_random (.inr hu)
        obtain ⟨w3, hw⟩ : ∃ x, x = (w2.setCell ⟨sB, 0, none⟩ s3).setCell ⟨m, 2, none⟩ (u3) := ⟨_, rfl⟩
        have HS3 : Hid (SHAt w3 w.heap.size C g m { vers := be a2, random := a3 }) := by rw [hw]; exact hs2
        have HD3 : Hid (w3.heap[sB]? = some (.cells #[s3] 152 (0, 0))) := by rw [hw]; exact heap_past hd hms
        have HG3 : Hid (w3.heap[g]? = some (.cells C T fr)) := by rw [hw]; exact heap_past (heap_past HG2.out (fun e => hgs e.symm)) (fun e => hgm e.symm)
        have HF3 : Hid (Fs [m, sB] w w3) := by rw [hw]; exact (HF2.out.set sB 0 _ (by simp)).set m 2 _ (by simp)
        have HV3 := Lib.hid hv
        rw [← hw]
        clear hs hd hs2 hv hw c0 z0 hq hqz HS2 HD2 HG2 HF2 HV2 hu
        have c0 := cell_head HD3.out
        have z0 : w3.frozen? ⟨sB, 0, none⟩ = false := frozen_of_heap HD3.out
        obtain ⟨vq, hq, _⟩ := HS3.out.at_session
        have hqz := HS3.out.frozen 3
        cases hr : rdv 1 r3 with
        | none =>
          have HR := Lib.hid hr
          clear hr
          go_wp2_with fail
          refine (t8_no ⟨sB, 0, none⟩ _ w3 HR.out HG3.out HV3.out c0 z0 (fun e => hgs e.symm)).mono ?_
          rintro e wx ⟨vx, rfl, rfl⟩
          go_wp2_with fail
          go_ret
          exact ⟨(HF3.out.set sB 0 vx (by simp)).fresh2 hsz0, .inl ⟨by simp [shRead, shHead, H1.out, H2.out, H3.out, HR.out], rfl⟩⟩
        | some y =>
          obtain ⟨a4, r4⟩ := y
          have H4 := Lib.hid hr
          clear hr
          go_wp2_with fail
          refine (t8_yes ⟨sB, 0, none⟩ ⟨m, 3, none⟩ w3 H4.out HG3.out HV3.out c0 z0 hq hqz (fun e => hgs e.symm) (by simp [hsm])).mono ?_
          rintro e wx ⟨u4, s4, rfl, hu, hv, rfl⟩
          obtain ⟨hs, hd⟩ := sh_left HS3.out HD3.out hms s4
          have hs2 := hs.set_session (.inr hu)
          obtain ⟨w4, hw⟩ : ∃ x, x = (w3.setCell ⟨sB, 0, none⟩ s4).setCell ⟨m, 3, none⟩ (u4) := ⟨_, rfl⟩
          have HS4 : Hid (SHAt w4 w.heap.size C g m { vers := be a2, random := a3, session := a4 }) := by rw [hw]; exact hs2
          have HD4 : Hid (w4.heap[sB]? = some (.cells #[s4] 152 (0, 0))) := by rw [hw]; exact heap_past hd hms
          have HG4 : Hid (w4.heap[g]? = some (.cells C T fr)) := by rw [hw]; exact heap_past (heap_past HG3.out (fun e => hgs e.symm)) (fun e => hgm e.symm)
          have HF4 : Hid (Fs [m, sB] w w4) := by rw [hw]; exact (HF3.out.set sB 0 _ (by simp)).set m 3 _ (by simp)
          have HV4 := Lib.hid hv
          rw [← hw]
          clear hs hd hs2 hv hw c0 z0 hq hqz HS3 HD3 HG3 HF3 HV3 hu
          have c0 := cell_head HD4.out
          have z0 : w4.frozen? ⟨sB, 0, none⟩ = false := frozen_of_heap HD4.out
          have hq := HS4.out.at_cipher
          have hqz := HS4.out.frozen 4
          cases hr : rd 2 r4 with
          | none =>
            have HR := Lib.hid hr
            clear hr
            go_wp2_with fail
            refine (ru16_no ⟨sB, 0, none⟩ _ w4 HR.out HV4.out c0).mono ?_
            rintro e wx ⟨rfl, rfl⟩
            go_wp2_with fail
            go_ret
            exact ⟨HF4.out.fresh2 hsz0, .inl ⟨by simp [shRead, shHead, H1.out, H2.out, H3.out, H4.out, HR.out], rfl⟩⟩
          | some y =>
            obtain ⟨a5, r5⟩ := y
            have H5 := Lib.hid hr
            clear hr
            go_wp2_with fail
            refine (ru16_yes ⟨sB, 0, none⟩ ⟨m, 4, none⟩ w4 H5.out HG4.out HV4.out c0 z0 hq hqz (fun e => hgs e.symm) (by simp [hsm])).mono ?_
            rintro e wx ⟨s5, rfl, hv, rfl⟩
            obtain ⟨hs, hd⟩ := sh_left HS4.out HD4.out hms s5
            have hs2 := hs.set_cipher (be a5)
            obtain ⟨w5, hw⟩ : ∃ x, x = ((w4.setCell ⟨sB, 0, none⟩ s5).setCell ⟨m, 4, none⟩ (.int .u16 (be a5 : Nat))).drew := ⟨_, rfl⟩
            have HS5 : Hid (SHAt w5 w.heap.size C g m { vers := be a2, random := a3, session := a4, cipher := be a5 }) := by rw [hw]; exact hs2
            have HD5 : Hid (w5.heap[sB]? = some (.cells #[s5] 152 (0, 0))) := by rw [hw]; exact heap_past hd hms
            have HG5 : Hid (w5.heap[g]? = some (.cells C T fr)) := by rw [hw]; exact heap_past (heap_past HG4.out (fun e => hgs e.symm)) (fun e => hgm e.symm)
            have HF5 : Hid (Fs [m, sB] w w5) := by rw [hw]; exact ((HF4.out.set sB 0 _ (by simp)).set m 4 _ (by simp)).drew
            have HV5 := Lib.hid hv
            rw [← hw]
            clear hs hd hs2 hv hw c0 z0 hq hqz HS4 HD4 HG4 HF4 HV4
            have c0 := cell_head HD5.out
            have z0 : w5.frozen? ⟨sB, 0, none⟩ = false := frozen_of_heap HD5.out
            have hq := HS5.out.at_comp
            have hqz := HS5.out.frozen 5
            cases hr : rd 1 r5 with
            | none =>
              have HR := Lib.hid hr
              clear hr
              go_wp2_with fail
              refine (ru8_no ⟨sB, 0, none⟩ _ w5 HR.out HV5.out c0).mono ?_
              rintro e wx ⟨rfl, rfl⟩
              go_wp2_with fail
              go_ret
              exact ⟨HF5.out.fresh2 hsz0, .inl ⟨by simp [shRead, shHead, H1.out, H2.out, H3.out, H4.out, H5.out, HR.out], rfl⟩⟩
            | some y =>
              obtain ⟨a6, r6⟩ := y
              have H6 := Lib.hid hr
              clear hr
              go_wp2_with fail
              refine (ru8_yes ⟨sB, 0, none⟩ ⟨m, 5, none⟩ w5 H6.out HG5.out HV5.out c0 z0 hq hqz (fun e => hgs e.symm) (by simp [hsm])).mono ?_
              rintro e wx ⟨s6, rfl, hv, rfl⟩
              obtain ⟨hs, hd⟩ := sh_left HS5.out HD5.out hms s6
              have hs2 := hs.set_comp (be a6)
              obtain ⟨w6, hw⟩ : ∃ x, x = (w5.setCell ⟨sB, 0, none⟩ s6).setCell ⟨m, 5, none⟩ (.int .u8 (be a6 : Nat)) := ⟨_, rfl⟩
              have HS6 : Hid (SHAt w6 w.heap.size C g m { vers := be a2, random := a3, session := a4, cipher := be a5, comp := be a6 }) := by rw [hw]; exact hs2
              have HD6 : Hid (w6.heap[sB]? = some (.cells #[s6] 152 (0, 0))) := by rw [hw]; exact heap_past hd hms
              have HG6 : Hid (w6.heap[g]? = some (.cells C T fr)) := by rw [hw]; exact heap_past (heap_past HG5.out (fun e => hgs e.symm)) (fun e => hgm e.symm)
              have HF6 : Hid (Fs [m, sB] w w6) := by rw [hw]; exact (HF5.out.set sB 0 _ (by simp)).set m 5 _ (by simp)
              have HV6 := Lib.hid hv
              rw [← hw]
              clear hs hd hs2 hv hw c0 z0 hq hqz HS5 HD5 HG5 HF5 HV5
              have hhead : shHead bs = some ({ vers := be a2, random := a3, session := a4, cipher := be a5, comp := be a6 }, r6) := by simp [shHead, H1.out, H2.out, H3.out, H4.out, H5.out, H6.out]
              have HH := Lib.hid hhead
              obtain ⟨f, hf⟩ : ∃ f : SH, f = { vers := be a2, random := a3, session := a4, cipher := be a5, comp := be a6 } := ⟨_, rfl⟩
              have HSf : Hid (SHAt w6 w.heap.size C g m f) := by rw [hf]; exact HS6.out
              have hh2 : shHead bs = some (f, r6) := by rw [hf]; exact hhead
              have hfs : f.scts = [] := by rw [hf]
              have HHD := Lib.hid hh2
              have HFS := Lib.hid hfs
              have c0 := cell_head HD6.out
              clear hhead HH hf hh2 hfs HS6 H1 H2 H3 H4 H5 H6
              go_wp2_with fail
              refine (empty_any _ HV6.out).mono ?_
              rintro e wx ⟨rfl, rfl⟩
              by_cases h60 : r6 = []
              · subst h60
                simp only [List.isEmpty_nil]
                go_wp2_with fail
                go_ret
                exact ⟨HF6.out.fresh2 hsz0, .inr ⟨f, by simp [shRead, HHD.out], rfl, HSf.out⟩⟩
              · have he0 : r6.isEmpty = false := by simpa using h60
                rw [he0]
                have hrd : shRead bs = (rdv 2 r6).bind fun e => if e.2 = [] then shExts e.1.length [] f e.1 else none := by
                  unfold shRead
                  rw [HHD.out, Option.bind_some, if_neg h60]
                have HRD := Lib.hid hrd
                have hsl := lt_of_heap HD6.out
                have hml6 := HSf.out.lt
                have hgl6 := lt_of_heap HG6.out
                obtain ⟨eB, heB⟩ : ∃ x, x = w6.heap.size := ⟨_, rfl⟩
                have hse : sB ≠ eB := by omega
                have hme : m ≠ eB := by omega
                have hge : g ≠ eB := by omega
                have hes : eB ≠ sB := by omega
                have hle : w.heap.size ≤ eB := by have := HF6.out.size; omega
                have HEB := Lib.hid heB
                obtain ⟨w7, hw7⟩ : ∃ x, x = w6.alloc (.cells #[.slice none 0 0] 152) := ⟨_, rfl⟩
                have HD7 : Hid (w7.heap[sB]? = some (.cells #[s6] 152 (0, 0))) := by rw [hw7]; exact heap_push HD6.out
                have HE7 : Hid (w7.heap[eB]? = some (.cells #[.slice none 0 0] 152 (0, 0))) := by rw [hw7, heB]; exact heap_alloc_new _ _
                have HG7 : Hid (w7.heap[g]? = some (.cells C T fr)) := by rw [hw7]; exact heap_push HG6.out
                have HF7 : Hid (Fs [] w6 w7) := by rw [hw7]; exact (Fs.refl [] w6).push _
                have hs7 : w7.heap.size = eB + 1 := by rw [hw7, heB]; simp
                have HS7 := Lib.hid hs7
                have HW7 := Lib.hid hw7
                clear hrd he0 h60 heB hw7 hs7 c0
                cases hr : rdv 2 r6 with
                | none =>
                  have HR := Lib.hid hr
                  have HN := Lib.hid (show shRead bs = none by rw [HRD.out, hr]; rfl)
                  clear hr
                  go_wp2_with fail
                  rw [← HEB.out, ← HW7.out]
                  refine (r16_not _ w7 HR.out HG7.out HV6.out HD7.out hgs).mono ?_
                  rintro e wx ⟨rfl, hfx⟩
                  have HFX : Hid (Fs [m, sB] w wx) := (HF6.out.trans (HF7.out.mono (by simp))).trans (hfx.mono (by simp))
                  clear hfx
                  go_wp2_with fail
                  go_ret
                  exact ⟨HFX.out.fresh2 hsz0, .inl ⟨HN.out, rfl⟩⟩
                | some y =>
                  obtain ⟨ex, r7⟩ := y
                  have HR := Lib.hid hr
                  have hexl : ex.length ≤ 65535 := by
                    have h := (rdv_some hr).2
                    omega
                  clear hr
                  go_wp2_with fail
                  rw [← HEB.out, ← HW7.out]
                  refine (r16_at w7 HR.out HG7.out HV6.out HD7.out HE7.out hgs hse).mono ?_
                  rintro e w8 ⟨v8, s8, rfl, hv8, hsv8, hd8, he8, hf8⟩
                  have HS8 := Lib.hid ((HSf.out.fs HF7.out (by simp) (Odd.nil _)).fs hf8 (by simp; omega) (Odd.cons HD7.out (by decide) (by decide) (Odd.cons HE7.out (by decide) (by decide) (Odd.nil _))))
                  have HG8 := Lib.hid ((hf8.keep g (by have := HS7.out; omega) (by simp; omega)).trans HG7.out)
                  have HF8 : Hid (Fs [m, sB] w w8) := (((HF6.out.trans (HF7.out.mono (by simp))).mono (l' := [eB, m, sB]) (by simp)).trans (hf8.mono (by simp))).fresh hle
                  have hsz8 : eB + 1 ≤ w8.heap.size := by have := HS7.out; have := hf8.size; omega
                  have hel8 := lt_of_heap he8
                  have HV8 := Lib.hid hv8
                  have HSV8 := Lib.hid hsv8
                  have HE8 := Lib.hid he8
                  have cs8 := cell_head hd8
                  clear hv8 hsv8 hd8 he8 hf8
                  go_wp2_with fail
                  refine (empty_any _ HSV8.out).mono ?_
                  rintro e wx ⟨rfl, rfl⟩
                  by_cases h70 : r7 = []
                  · have htot : shRead bs = shExts ex.length [] f ex := by
                      rw [HRD.out, HR.out, Option.bind_some, if_pos h70]
                    have HTOT := Lib.hid htot
                    subst h70
                    simp only [List.isEmpty_nil]
                    have HMK := run_makeMap (P := Try.prog) 163 w8
                    obtain ⟨mB, hmB⟩ : ∃ x, x = w8.heap.size := ⟨_, rfl⟩
                    obtain ⟨w9, hw9⟩ : ∃ x, x = w8.alloc (.map #[] 0) := ⟨_, rfl⟩
                    have HM9 : Hid (SeenAt w9 mB []) := by rw [hw9, hmB]; exact seen_new w8
                    have hf9 : Fs [] w8 w9 := by rw [hw9]; exact (Fs.refl [] w8).push _
                    have HS9 := Lib.hid (HS8.out.fs hf9 (by simp) (Odd.nil _))
                    have HG9 := Lib.hid ((hf9.keep g (by omega) (by simp)).trans HG8.out)
                    have HE9 := Lib.hid ((hf9.keep eB hel8 (by simp)).trans HE8.out)
                    have HF9 : Hid (Fs [m, sB] w w9) := HF8.out.trans (hf9.mono (by simp))
                    have hgb : g ≠ mB := by omega
                    have hmb : m ≠ mB := by omega
                    have heb : eB ≠ mB := by omega
                    have hlb : w.heap.size ≤ mB := by omega
                    have HMB := Lib.hid hmB
                    have HW9 := Lib.hid hw9
                    have hb9 : w.heap.size ≤ w9.heap.size := HF9.out.size
                    clear htot hmB hw9 hf9 cs8
                    go_wp2_with fail
                    rw [← HMB.out, ← HW9.out]
                    refine wp_loop (ShInv w9 w.heap.size C g m eB mB (.pointer (some ⟨sB, 0, none⟩)) (shExts ex.length [] f ex)) (fun _ w' => cellLen w' eB)
                      ⟨rfl, rfl, rfl, rfl, rfl, rfl, f, [], ex.length, ex, v8, HS9.out, HE9.out, HV8.out, HM9.out, Nat.le_refl _, rfl, fun _ => HFS.out, Fs.refl _ _, by simp; omega⟩
                      (fun a' w' hI => sh_round HG9.out hgm hge hgb hme hmb heb hb9 ?_ ?_ hI)
                    · intro f' a'' w'' hf' hS' hF' hdf hsz''
                      obtain ⟨s'', dl⟩ := a''
                      simp only at hdf hsz''
                      subst hdf
                      obtain ⟨z, rfl⟩ := arr254 s'' hsz''
                      have HX := Lib.hid (show shRead bs = some f' by rw [HTOT.out, hf'])
                      have HSX := Lib.hid hS'
                      have HFX := Lib.hid (HF9.out.only (m := m) (by simp; omega))
                      have HFY := Lib.hid hF'
                      clear hf' hS' hF' hsz''
                      simp only [Exit.then, Exit.inBlock]
                      rw [if_pos trivial]
                      go_wp2_with fail
                      go_ret
                      exact ⟨((HF9.out.mono (l' := [m, sB, eB, mB]) (by simp)).trans (HFY.out.mono (by simp))).only (by simp; omega), .inr ⟨f', HX.out, rfl, HSX.out⟩⟩
                    · intro a'' w'' hnone hF' hdf h4
                      have hn : shRead bs = none := by rw [HTOT.out, hnone]
                      have hg4 : a''.tmps.getD 4 undef = .bool false := by
                        rw [Array.getD_eq_getD_getElem?, h4]; rfl
                      simp only [Exit.then, Exit.inBlock]
                      exact bodyPost_ret (by rw [results_tmp rfl, hg4]) hdf ⟨((HF9.out.mono (l' := [m, sB, eB, mB]) (by simp)).trans (hF'.mono (by simp))).only (by simp; omega), .inl ⟨hn, rfl⟩⟩
                  · have he7 : r7.isEmpty = false := by simpa using h70
                    rw [he7]
                    have HN := Lib.hid (show shRead bs = none by rw [HRD.out, HR.out, Option.bind_some, if_neg h70])
                    clear h70 he7
                    go_wp2_with fail
                    go_ret
                    exact ⟨HF8.out.fresh2 hsz0, .inl ⟨HN.out, rfl⟩⟩


end Go.Proofs.Ytopcljikkdlffaa
