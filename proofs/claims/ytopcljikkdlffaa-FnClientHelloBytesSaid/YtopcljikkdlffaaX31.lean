/- The reference reads the extension with a server's name. No statement of the seat is proved here. -/
import Derived.Test.YtopcljikkdlffaaX30
namespace Go.Proofs.Ytopcljikkdlffaa
open Go.RowKit

theorem run_last {nm : List UInt8} (h : nm ≠ []) (w : World) : (Instr.index 9 (.string ⟨nm.toArray⟩) (.int .i64 ((nm.length : Int) - 1))).run Try.prog w = .ok (.int .u8 ((nm.getLast h).toNat : Nat)) w := by
  have hp := List.length_pos_iff.2 h
  have hs : (ByteArray.mk nm.toArray).size = nm.length := rfl
  rw [run_index_string w 9 _ _ _ Try.underlying9]
  rw [dif_pos ⟨by omega, by rw [hs]; omega⟩]
  have e : ((nm.length : Int) - 1).toNat = nm.length - 1 := by omega
  have e2 : (ByteArray.mk nm.toArray)[((nm.length : Int) - 1).toNat]'(by rw [hs]; omega) = nm.getLast h := by
    rw [List.getLast_eq_getElem]
    simp only [e]
    rfl
  rw [e2]

theorem run_last2 {nm : List UInt8} (h : nm ≠ []) (S : ByteArray) (hS : S = ⟨nm.toArray⟩) (w : World) : (Instr.index 9 (.string S) (.int .i64 ((S.size : Int) - 1))).run Try.prog w = .ok (.int .u8 ((nm.getLast h).toNat : Nat)) w := by
  subst hS
  exact run_last h w

section
variable {w0 w : World} {C : Array Value} {g m x : Nat} {rnd : FD} {f : CH} {st : Nat × List UInt8}

set_option maxRecDepth 100000 in
set_option maxHeartbeats 2000000 in
theorem cx_0 (h : Cx w0 w C g m x rnd f st) :
    Calls Try.prog 64 #[.pointer (some ⟨x, 0, none⟩), .int .u16 0, .pointer (some ⟨m, 0, none⟩)] w (CxPost w0 w C g m x rnd (rcext 0 f st)) := by
  rw [show rcext 0 f st = ({ f with name := (rname st).1 }, (rname st).2) from rfl]
  have hxm : x ≠ m := by have := h.hx; have := h.hm; omega
  have hmx : m ≠ x := fun e => hxm e.symm
  have hgx := h.hb.gne h.hx
  have hok := rV_ok (C := C) (g := g) (f := f) h.hr
  obtain ⟨T, fr, hg⟩ := h.hb.data
  have HG := Lib.hid hg
  have HX := Lib.hid h
  clear hg h
  go_enter Try.func64, Try.ntmps64
  go_wp2_with fail
  refine (vec_ok 2 1 65535 w (by omega) HG.out hgx HX.out.ra).mono ?_
  rintro e w1 ⟨u, rfl, hv, hr, hf⟩
  have hl1 := rvec_len (k := 2) (low := 1) (high := 65535) (st := st)
  have HV1 := Lib.hid hv
  obtain ⟨av1, cv1, rfl, _, _⟩ := hv.len
  have HB1 := Lib.hid (HX.out.hb.rd1 (hf.fs (l := [x]) (by simp)) HX.out.hx HX.out.ra HX.out.hm hok)
  have HG1 := Lib.hid ((hf.keep g (lt_of_heap HG.out) hgx).trans HG.out)
  have HR1 := Lib.hid hr
  have HK1 := Lib.hid ((hf.fs (l := [x]) (by simp)).kt.mono (l' := [m, x]) (by simp))
  clear hv hr hf
  have hxl1 := HR1.out.lt
  go_wp2_with fail
  refine (within_ok w1 HV1.out HR1.out).mono ?_
  rintro e w2 ⟨rfl, hp, hf⟩
  have hp : RAt w2 w1.heap.size C g (rin (rvec 2 1 65535 st).2 (rvec 2 1 65535 st).1) := hp
  obtain ⟨y, hy⟩ : ∃ y, y = w1.heap.size := ⟨_, rfl⟩
  rw [← hy] at hp ⊢
  have hym : y ≠ m := by have h1 := HB1.out.lt (b := 0) rfl; omega
  have hxy : x ≠ y := by omega
  have hy0 : w0.heap.size ≤ y := by have h1 := HX.out.hx; omega
  have hyw : w.heap.size ≤ y := by have h1 := HK1.out.size; omega
  have hgy : g ≠ y := by have h1 := lt_of_heap HG1.out; omega
  have HB2 := Lib.hid (HB1.out.keep hf)
  have HR2 := Lib.hid (HR1.out.fs hf (by simp))
  have HG2 := Lib.hid ((hf.keep g (lt_of_heap HG1.out) (by simp)).trans HG1.out)
  have HP2 := Lib.hid hp
  have HK2 : Hid (Kt [y, m, x] w w2) := Lib.hid ((HK1.out.mono (by simp)).trans (hf.kt.mono (by simp)))
  have HNAME : Hid (rname st = ((rvec 2 1 65535 (rkind 0 (rin (rvec 2 1 65535 st).2 (rvec 2 1 65535 st).1))).1, rdone (rvec 2 1 65535 st).2 (rhost (rvec 2 1 65535 (rkind 0 (rin (rvec 2 1 65535 st).2 (rvec 2 1 65535 st).1)))))) := Lib.hid rfl
  have hrl : (rin (rvec 2 1 65535 st).2 (rvec 2 1 65535 st).1).2.length ≤ 65535 := by
    unfold rin
    dsimp only
    split
    · omega
    · simp
  obtain ⟨P, hP⟩ : ∃ P, P = rin (rvec 2 1 65535 st).2 (rvec 2 1 65535 st).1 := ⟨_, rfl⟩
  rw [← hP] at HP2 HNAME hrl
  clear hp hf hP hy
  go_wp2_with fail
  refine (num_ok 1 w2 (by omega) HG2.out hgy HP2.out).mono ?_
  rintro e w3 ⟨rfl, hr, hf⟩
  have hk : rkind 0 P = if (rnum 1 P).1 = 0 then (rnum 1 P).2 else rfail 1 (rnum 1 P).2 := rfl
  obtain ⟨PK, hPK⟩ : ∃ PK, PK = rkind 0 P := ⟨_, rfl⟩
  rw [← hPK] at HNAME hk
  obtain ⟨s, hs⟩ : ∃ s, s = rnum 1 P := ⟨_, rfl⟩
  rw [← hs] at hr hk ⊢
  obtain ⟨n, s1⟩ := s
  simp only at hr hk ⊢
  have HB3 := Lib.hid (HB2.out.rd1 (hf.fs (l := [y]) (by simp)) hy0 HP2.out HX.out.hm hok)
  have HR3 := Lib.hid (HR2.out.fs (hf.fs (l := [y]) (by simp)) (by simpa using hxy))
  have HG3 := Lib.hid ((hf.keep g (lt_of_heap HG2.out) hgy).trans HG2.out)
  have HP3 := Lib.hid hr
  have HK3 := Lib.hid (HK2.out.trans ((hf.fs (l := [y, m, x]) (by simp)).kt))
  clear hr hf hs hPK
  by_cases hn : n = 0
  · rw [if_pos hn] at hk
    subst hk
    subst hn
    go_wp2_with fail
    refine (vec_ok 2 1 65535 _ (by omega) HG3.out hgy HP3.out).mono ?_
    rintro e w5 ⟨u, rfl, hv, hr, hf⟩
    have hl5 := rvec_len (k := 2) (low := 1) (high := 65535) (st := PK)
    have hrl5 := rvec_le (k := 2) (low := 1) (high := 65535) (st := PK)
    obtain ⟨N, hN⟩ : ∃ N, N = rvec 2 1 65535 PK := ⟨_, rfl⟩
    rw [← hN] at hv hr hl5 hrl5
    have HRES : Hid ((rname st).2 = rdone (rvec 2 1 65535 st).2 (rhost N)) := Lib.hid (by rw [HNAME.out, hN])
    have HNM0 : Hid ((rname st).1 = N.1) := Lib.hid (by rw [HNAME.out, hN])
    clear hN
    obtain ⟨nm, cd, rs⟩ := N
    simp only at hv hr hl5 hrl5
    have HNM : Hid ((rname st).1 = nm) := HNM0
    clear HNM0
    have HG5 := Lib.hid ((hf.keep g (lt_of_heap HG3.out) hgy).trans HG3.out)
    have hcv := conv_ok (vn_src hv HG5.out).src
    obtain ⟨av, cv, rfl, _, _⟩ := hv.len
    obtain ⟨S, hS⟩ : ∃ S : ByteArray, S = ⟨nm.toArray⟩ := ⟨_, rfl⟩
    have hsz : nm.length = S.size := by rw [hS]; rfl
    rw [← hS, hsz] at hcv
    rw [hsz] at hl5
    have HB5 := Lib.hid (HB3.out.rd1 (hf.fs (l := [y]) (by simp)) hy0 HP3.out HX.out.hm hok)
    have HR5 := Lib.hid (HR3.out.fs (hf.fs (l := [y]) (by simp)) (by simpa using hxy))
    have HK5 := Lib.hid (HK3.out.trans ((hf.fs (l := [y, m, x]) (by simp)).kt))
    have HP5 := Lib.hid hr
    have HB6 := Lib.hid (HB5.out.set (b := 0) (i := 5) rfl rfl (.val (.string S)) _ rfl rfl)
    have HR6 := Lib.hid (HR5.out.setOther m 5 (.string S) hxm)
    have HP6 := Lib.hid (HP5.out.setOther m 5 (.string S) hym)
    have HK6 := Lib.hid (HK5.out.setCell m 5 (.string S) (by simp))
    obtain ⟨u5, hc5, _⟩ := HB5.out.at (b := 0) (i := 5) rfl rfl
    have hfz5 := HB5.out.frozen (b := 0) rfl 5
    obtain ⟨vr, hh, hvr⟩ := id hr
    obtain ⟨ar, cr, rfl, _, _⟩ := hvr.len
    simp only at hh hvr
    have fr0 : w5.cell? ⟨y, 0, none⟩ = some (.slice ar rs.length cr) := by rw [cell_of_heap hh]; rfl
    rw [hsz]
    have HS := Lib.hid hS
    have HSZ := Lib.hid hsz
    have q5 := HB6.out.val (b := 0) (i := 5) rfl rfl
    have f6 : (w5.setCell ⟨m, 5, none⟩ (.string S)).cell? ⟨y, 0, none⟩ = some (.slice ar rs.length cr) := (cell_other_off (.inl (fun e => hym e.symm))).trans fr0
    clear hv hr hf hh hvr hS hsz
    go_upto_region 8 with fail
    obtain ⟨w6, hw6⟩ : ∃ x, x = w5.setCell ⟨m, 5, none⟩ (.string S) := ⟨_, rfl⟩
    rw [← hw6] at HB6 HR6 HP6 HK6 q5 f6 ⊢
    clear hw6 hcv hc5 hfz5 fr0
    by_cases hnm : nm = []
    · have HH : Hid (rhost (nm, (cd, rs)) = (cd, rs)) := Lib.hid (by rw [hnm]; rfl)
      have hpos : ¬ 0 < S.size := by rw [← HSZ.out, hnm]; simp
      clear hnm
      go_wp2_with fail
      refine (done_ok _ hxy HR6.out HP6.out).mono ?_
      rintro e w9 ⟨rfl, hr, hf⟩
      have HB9 := Lib.hid (HB6.out.rd2 hf HX.out.hx HR6.out hy0 HP6.out HX.out.hm hok)
      have HR9 := Lib.hid hr
      have HK9 := Lib.hid (HK6.out.trans ((hf.mono (l' := [y, m, x]) (by simp)).kt))
      clear hr hf
      go_wp2_with fail
      go_end0
      refine ⟨rfl, by rw [HNM.out]; have h9 := HB9.out; rw [HS.out] at h9; exact h9, ?_, HK9.out.fresh hyw⟩
      rw [HRES.out, HH.out]
      exact HR9.out
    · have hpos0 : 0 < nm.length := List.length_pos_iff.2 hnm
      have hpos2 : 0 < S.size := by have := List.length_pos_iff.2 hnm; have := HSZ.out; omega
      have hidx := fun w => run_last2 hnm S HS.out w
      by_cases hl : nm.getLast hnm = 46
      · have HH : Hid (rhost (nm, (cd, rs)) = rfail 1 (cd, rs)) := Lib.hid (by
          unfold rhost
          rw [if_pos ⟨hnm, .inl (by rw [List.getLast?_eq_some_getLast hnm, hl])⟩])
        rw [hl] at hidx
        clear hl hnm
        go_wp2_with fail
        refine (fail_ok 1 _ HP6.out).mono ?_
        rintro e w8 ⟨rfl, hr, hf⟩
        have HB8 := Lib.hid (HB6.out.rd1 (hf.fs (l := [y]) (by simp)) hy0 HP6.out HX.out.hm hok)
        have HR8 := Lib.hid (HR6.out.fs (hf.fs (l := [y]) (by simp)) (by simpa using hxy))
        have HP8 := Lib.hid hr
        have HK8 := Lib.hid (HK6.out.trans ((hf.fs (l := [y, m, x]) (by simp)).kt))
        clear hr hf
        go_wp2_with fail
        refine (done_ok _ hxy HR8.out HP8.out).mono ?_
        rintro e w9 ⟨rfl, hr, hf⟩
        have HB9 := Lib.hid (HB8.out.rd2 hf HX.out.hx HR8.out hy0 HP8.out HX.out.hm hok)
        have HR9 := Lib.hid hr
        have HK9 := Lib.hid (HK8.out.trans ((hf.mono (l' := [y, m, x]) (by simp)).kt))
        clear hr hf
        go_wp2_with fail
        go_end0
        refine ⟨rfl, by rw [HNM.out]; have h9 := HB9.out; rw [HS.out] at h9; exact h9, ?_, HK9.out.fresh hyw⟩
        rw [HRES.out, HH.out]
        exact HR9.out
      · obtain ⟨lc, hlc⟩ : ∃ c, c = (nm.getLast hnm).toNat := ⟨_, rfl⟩
        have hl1 : ¬ ((lc : Nat) : Int) = 46 := fun e => hl (UInt8.toNat_inj.1 (by rw [← hlc]; show lc = 46; omega))
        have hl2 : (((lc : Nat) : Int) == 46) = false := by simpa using hl1
        rw [← hlc] at hidx
        have HL : Hid (¬ nm.getLast? = some 46) := Lib.hid (by
          rw [List.getLast?_eq_some_getLast hnm]
          exact fun e => hl (Option.some.inj e))
        have HNE := Lib.hid hnm
        clear hl hlc hnm
        by_cases hrs : rs = []
        · subst hrs
          have HH : Hid (rhost (nm, (cd, [])) = (cd, [])) := Lib.hid (by
            unfold rhost
            rw [if_neg]
            rintro ⟨_, h | h⟩
            · exact HL.out h
            · exact h rfl)
          go_wp2_with fail
          refine (done_ok _ hxy HR6.out HP6.out).mono ?_
          rintro e w9 ⟨rfl, hr, hf⟩
          have HB9 := Lib.hid (HB6.out.rd2 hf HX.out.hx HR6.out hy0 HP6.out HX.out.hm hok)
          have HR9 := Lib.hid hr
          have HK9 := Lib.hid (HK6.out.trans ((hf.mono (l' := [y, m, x]) (by simp)).kt))
          clear hr hf
          go_wp2_with fail
          go_end0
          refine ⟨rfl, by rw [HNM.out]; have h9 := HB9.out; rw [HS.out] at h9; exact h9, ?_, HK9.out.fresh hyw⟩
          rw [HRES.out, HH.out]
          exact HR9.out
        · have HH : Hid (rhost (nm, (cd, rs)) = rfail 1 (cd, rs)) := Lib.hid (by
            unfold rhost
            rw [if_pos ⟨HNE.out, .inr hrs⟩])
          have hr1 : 0 < rs.length := List.length_pos_iff.2 hrs
          clear hrs
          go_wp2_with fail
          refine (fail_ok 1 _ HP6.out).mono ?_
          rintro e w8 ⟨rfl, hr, hf⟩
          have HB8 := Lib.hid (HB6.out.rd1 (hf.fs (l := [y]) (by simp)) hy0 HP6.out HX.out.hm hok)
          have HR8 := Lib.hid (HR6.out.fs (hf.fs (l := [y]) (by simp)) (by simpa using hxy))
          have HP8 := Lib.hid hr
          have HK8 := Lib.hid (HK6.out.trans ((hf.fs (l := [y, m, x]) (by simp)).kt))
          clear hr hf
          go_wp2_with fail
          refine (done_ok _ hxy HR8.out HP8.out).mono ?_
          rintro e w9 ⟨rfl, hr, hf⟩
          have HB9 := Lib.hid (HB8.out.rd2 hf HX.out.hx HR8.out hy0 HP8.out HX.out.hm hok)
          have HR9 := Lib.hid hr
          have HK9 := Lib.hid (HK8.out.trans ((hf.mono (l' := [y, m, x]) (by simp)).kt))
          clear hr hf
          go_wp2_with fail
          go_end0
          refine ⟨rfl, by rw [HNM.out]; have h9 := HB9.out; rw [HS.out] at h9; exact h9, ?_, HK9.out.fresh hyw⟩
          rw [HRES.out, HH.out]
          exact HR9.out
  · rw [if_neg hn] at hk
    have hn1 : ¬ ((n : Nat) : Int) = 0 := by omega
    have hn2 : (((n : Nat) : Int) == 0) = false := by simpa using hn1
    have HPK := Lib.hid hk
    clear hk hn
    go_wp2_with fail
    refine (fail_ok 1 _ HP3.out).mono ?_
    rintro e w4 ⟨rfl, hr, hf⟩
    rw [← HPK.out] at hr
    have HB4 := Lib.hid (HB3.out.rd1 (hf.fs (l := [y]) (by simp)) hy0 HP3.out HX.out.hm hok)
    have HR4 := Lib.hid (HR3.out.fs (hf.fs (l := [y]) (by simp)) (by simpa using hxy))
    have HG4 := Lib.hid ((hf.keep g (lt_of_heap HG3.out) hgy).trans HG3.out)
    have HP4 := Lib.hid hr
    have HK4 := Lib.hid (HK3.out.trans ((hf.fs (l := [y, m, x]) (by simp)).kt))
    clear hr hf HPK
    go_wp2_with fail
    refine (vec_ok 2 1 65535 _ (by omega) HG4.out hgy HP4.out).mono ?_
    rintro e w5 ⟨u, rfl, hv, hr, hf⟩
    have hl5 := rvec_len (k := 2) (low := 1) (high := 65535) (st := PK)
    have hrl5 := rvec_le (k := 2) (low := 1) (high := 65535) (st := PK)
    obtain ⟨N, hN⟩ : ∃ N, N = rvec 2 1 65535 PK := ⟨_, rfl⟩
    rw [← hN] at hv hr hl5 hrl5
    have HRES : Hid ((rname st).2 = rdone (rvec 2 1 65535 st).2 (rhost N)) := Lib.hid (by rw [HNAME.out, hN])
    have HNM0 : Hid ((rname st).1 = N.1) := Lib.hid (by rw [HNAME.out, hN])
    clear hN
    obtain ⟨nm, cd, rs⟩ := N
    simp only at hv hr hl5 hrl5
    have HNM : Hid ((rname st).1 = nm) := HNM0
    clear HNM0
    have HG5 := Lib.hid ((hf.keep g (lt_of_heap HG4.out) hgy).trans HG4.out)
    have hcv := conv_ok (vn_src hv HG5.out).src
    obtain ⟨av, cv, rfl, _, _⟩ := hv.len
    obtain ⟨S, hS⟩ : ∃ S : ByteArray, S = ⟨nm.toArray⟩ := ⟨_, rfl⟩
    have hsz : nm.length = S.size := by rw [hS]; rfl
    rw [← hS, hsz] at hcv
    rw [hsz] at hl5
    have HB5 := Lib.hid (HB4.out.rd1 (hf.fs (l := [y]) (by simp)) hy0 HP4.out HX.out.hm hok)
    have HR5 := Lib.hid (HR4.out.fs (hf.fs (l := [y]) (by simp)) (by simpa using hxy))
    have HK5 := Lib.hid (HK4.out.trans ((hf.fs (l := [y, m, x]) (by simp)).kt))
    have HP5 := Lib.hid hr
    have HB6 := Lib.hid (HB5.out.set (b := 0) (i := 5) rfl rfl (.val (.string S)) _ rfl rfl)
    have HR6 := Lib.hid (HR5.out.setOther m 5 (.string S) hxm)
    have HP6 := Lib.hid (HP5.out.setOther m 5 (.string S) hym)
    have HK6 := Lib.hid (HK5.out.setCell m 5 (.string S) (by simp))
    obtain ⟨u5, hc5, _⟩ := HB5.out.at (b := 0) (i := 5) rfl rfl
    have hfz5 := HB5.out.frozen (b := 0) rfl 5
    obtain ⟨vr, hh, hvr⟩ := id hr
    obtain ⟨ar, cr, rfl, _, _⟩ := hvr.len
    simp only at hh hvr
    have fr0 : w5.cell? ⟨y, 0, none⟩ = some (.slice ar rs.length cr) := by rw [cell_of_heap hh]; rfl
    rw [hsz]
    have HS := Lib.hid hS
    have HSZ := Lib.hid hsz
    have q5 := HB6.out.val (b := 0) (i := 5) rfl rfl
    have f6 : (w5.setCell ⟨m, 5, none⟩ (.string S)).cell? ⟨y, 0, none⟩ = some (.slice ar rs.length cr) := (cell_other_off (.inl (fun e => hym e.symm))).trans fr0
    clear hv hr hf hh hvr hS hsz
    go_upto_region 8 with fail
    obtain ⟨w6, hw6⟩ : ∃ x, x = w5.setCell ⟨m, 5, none⟩ (.string S) := ⟨_, rfl⟩
    rw [← hw6] at HB6 HR6 HP6 HK6 q5 f6 ⊢
    clear hw6 hcv hc5 hfz5 fr0
    by_cases hnm : nm = []
    · have HH : Hid (rhost (nm, (cd, rs)) = (cd, rs)) := Lib.hid (by rw [hnm]; rfl)
      have hpos : ¬ 0 < S.size := by rw [← HSZ.out, hnm]; simp
      clear hnm
      go_wp2_with fail
      refine (done_ok _ hxy HR6.out HP6.out).mono ?_
      rintro e w9 ⟨rfl, hr, hf⟩
      have HB9 := Lib.hid (HB6.out.rd2 hf HX.out.hx HR6.out hy0 HP6.out HX.out.hm hok)
      have HR9 := Lib.hid hr
      have HK9 := Lib.hid (HK6.out.trans ((hf.mono (l' := [y, m, x]) (by simp)).kt))
      clear hr hf
      go_wp2_with fail
      go_end0
      refine ⟨rfl, by rw [HNM.out]; have h9 := HB9.out; rw [HS.out] at h9; exact h9, ?_, HK9.out.fresh hyw⟩
      rw [HRES.out, HH.out]
      exact HR9.out
    · have hpos0 : 0 < nm.length := List.length_pos_iff.2 hnm
      have hpos2 : 0 < S.size := by have := List.length_pos_iff.2 hnm; have := HSZ.out; omega
      have hidx := fun w => run_last2 hnm S HS.out w
      by_cases hl : nm.getLast hnm = 46
      · have HH : Hid (rhost (nm, (cd, rs)) = rfail 1 (cd, rs)) := Lib.hid (by
          unfold rhost
          rw [if_pos ⟨hnm, .inl (by rw [List.getLast?_eq_some_getLast hnm, hl])⟩])
        rw [hl] at hidx
        clear hl hnm
        go_wp2_with fail
        refine (fail_ok 1 _ HP6.out).mono ?_
        rintro e w8 ⟨rfl, hr, hf⟩
        have HB8 := Lib.hid (HB6.out.rd1 (hf.fs (l := [y]) (by simp)) hy0 HP6.out HX.out.hm hok)
        have HR8 := Lib.hid (HR6.out.fs (hf.fs (l := [y]) (by simp)) (by simpa using hxy))
        have HP8 := Lib.hid hr
        have HK8 := Lib.hid (HK6.out.trans ((hf.fs (l := [y, m, x]) (by simp)).kt))
        clear hr hf
        go_wp2_with fail
        refine (done_ok _ hxy HR8.out HP8.out).mono ?_
        rintro e w9 ⟨rfl, hr, hf⟩
        have HB9 := Lib.hid (HB8.out.rd2 hf HX.out.hx HR8.out hy0 HP8.out HX.out.hm hok)
        have HR9 := Lib.hid hr
        have HK9 := Lib.hid (HK8.out.trans ((hf.mono (l' := [y, m, x]) (by simp)).kt))
        clear hr hf
        go_wp2_with fail
        go_end0
        refine ⟨rfl, by rw [HNM.out]; have h9 := HB9.out; rw [HS.out] at h9; exact h9, ?_, HK9.out.fresh hyw⟩
        rw [HRES.out, HH.out]
        exact HR9.out
      · obtain ⟨lc, hlc⟩ : ∃ c, c = (nm.getLast hnm).toNat := ⟨_, rfl⟩
        have hl1 : ¬ ((lc : Nat) : Int) = 46 := fun e => hl (UInt8.toNat_inj.1 (by rw [← hlc]; show lc = 46; omega))
        have hl2 : (((lc : Nat) : Int) == 46) = false := by simpa using hl1
        rw [← hlc] at hidx
        have HL : Hid (¬ nm.getLast? = some 46) := Lib.hid (by
          rw [List.getLast?_eq_some_getLast hnm]
          exact fun e => hl (Option.some.inj e))
        have HNE := Lib.hid hnm
        clear hl hlc hnm
        by_cases hrs : rs = []
        · subst hrs
          have HH : Hid (rhost (nm, (cd, [])) = (cd, [])) := Lib.hid (by
            unfold rhost
            rw [if_neg]
            rintro ⟨_, h | h⟩
            · exact HL.out h
            · exact h rfl)
          go_wp2_with fail
          refine (done_ok _ hxy HR6.out HP6.out).mono ?_
          rintro e w9 ⟨rfl, hr, hf⟩
          have HB9 := Lib.hid (HB6.out.rd2 hf HX.out.hx HR6.out hy0 HP6.out HX.out.hm hok)
          have HR9 := Lib.hid hr
          have HK9 := Lib.hid (HK6.out.trans ((hf.mono (l' := [y, m, x]) (by simp)).kt))
          clear hr hf
          go_wp2_with fail
          go_end0
          refine ⟨rfl, by rw [HNM.out]; have h9 := HB9.out; rw [HS.out] at h9; exact h9, ?_, HK9.out.fresh hyw⟩
          rw [HRES.out, HH.out]
          exact HR9.out
        · have HH : Hid (rhost (nm, (cd, rs)) = rfail 1 (cd, rs)) := Lib.hid (by
            unfold rhost
            rw [if_pos ⟨HNE.out, .inr hrs⟩])
          have hr1 : 0 < rs.length := List.length_pos_iff.2 hrs
          clear hrs
          go_wp2_with fail
          refine (fail_ok 1 _ HP6.out).mono ?_
          rintro e w8 ⟨rfl, hr, hf⟩
          have HB8 := Lib.hid (HB6.out.rd1 (hf.fs (l := [y]) (by simp)) hy0 HP6.out HX.out.hm hok)
          have HR8 := Lib.hid (HR6.out.fs (hf.fs (l := [y]) (by simp)) (by simpa using hxy))
          have HP8 := Lib.hid hr
          have HK8 := Lib.hid (HK6.out.trans ((hf.fs (l := [y, m, x]) (by simp)).kt))
          clear hr hf
          go_wp2_with fail
          refine (done_ok _ hxy HR8.out HP8.out).mono ?_
          rintro e w9 ⟨rfl, hr, hf⟩
          have HB9 := Lib.hid (HB8.out.rd2 hf HX.out.hx HR8.out hy0 HP8.out HX.out.hm hok)
          have HR9 := Lib.hid hr
          have HK9 := Lib.hid (HK8.out.trans ((hf.mono (l' := [y, m, x]) (by simp)).kt))
          clear hr hf
          go_wp2_with fail
          go_end0
          refine ⟨rfl, by rw [HNM.out]; have h9 := HB9.out; rw [HS.out] at h9; exact h9, ?_, HK9.out.fresh hyw⟩
          rw [HRES.out, HH.out]
          exact HR9.out

end
end Go.Proofs.Ytopcljikkdlffaa
