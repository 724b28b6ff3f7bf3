/- The reference reads one extension of a ClientHello: cases. No statement of the seat is proved here. -/
import Derived.Test.YtopcljikkdlffaaX17
namespace Go.Proofs.Ytopcljikkdlffaa
open Go.RowKit

section
variable {w0 w : World} {C : Array Value} {g m x : Nat} {rnd : FD} {f : CH} {st : Nat × List UInt8}

set_option maxRecDepth 100000 in
set_option maxHeartbeats 2000000 in
theorem cx_23 (h : Cx w0 w C g m x rnd f st) :
    Calls Try.prog 64 #[.pointer (some ⟨x, 0, none⟩), .int .u16 23, .pointer (some ⟨m, 0, none⟩)] w (CxPost w0 w C g m x rnd (rcext 23 f st)) := by
  rw [show rcext 23 f st = ({ f with ems := true }, st) from rfl]
  have hxm : x ≠ m := by have := h.hx; have := h.hm; omega
  have hmx : m ≠ x := fun e => hxm e.symm
  have hgx := h.hb.gne h.hx
  have hok := rV_ok (C := C) (g := g) (f := f) h.hr
  obtain ⟨T, fr, hg⟩ := h.hb.data
  have HG := Lib.hid hg
  have HX := Lib.hid h
  clear hg h
  obtain ⟨u, hc, _⟩ := HX.out.hb.at (b := 0) (i := 15) rfl rfl
  have hfz := HX.out.hb.frozen (b := 0) rfl 15
  go_enter Try.func64, Try.ntmps64
  go_wp2_with fail
  go_end0
  exact ⟨rfl, HX.out.hb.set (b := 0) (i := 15) rfl rfl (.val (.bool true)) _ rfl rfl, HX.out.ra.setOther _ _ _ hxm, (Kt.refl _ _).setCell _ _ _ (by simp)⟩

set_option maxRecDepth 100000 in
set_option maxHeartbeats 2000000 in
theorem cx_18 (h : Cx w0 w C g m x rnd f st) :
    Calls Try.prog 64 #[.pointer (some ⟨x, 0, none⟩), .int .u16 18, .pointer (some ⟨m, 0, none⟩)] w (CxPost w0 w C g m x rnd (rcext 18 f st)) := by
  rw [show rcext 18 f st = ({ f with scts := true }, st) from rfl]
  have hxm : x ≠ m := by have := h.hx; have := h.hm; omega
  have hmx : m ≠ x := fun e => hxm e.symm
  have hgx := h.hb.gne h.hx
  have hok := rV_ok (C := C) (g := g) (f := f) h.hr
  obtain ⟨T, fr, hg⟩ := h.hb.data
  have HG := Lib.hid hg
  have HX := Lib.hid h
  clear hg h
  obtain ⟨u, hc, _⟩ := HX.out.hb.at (b := 0) (i := 17) rfl rfl
  have hfz := HX.out.hb.frozen (b := 0) rfl 17
  go_enter Try.func64, Try.ntmps64
  go_wp2_with fail
  go_end0
  exact ⟨rfl, HX.out.hb.set (b := 0) (i := 17) rfl rfl (.val (.bool true)) _ rfl rfl, HX.out.ra.setOther _ _ _ hxm, (Kt.refl _ _).setCell _ _ _ (by simp)⟩

set_option maxRecDepth 100000 in
set_option maxHeartbeats 2000000 in
theorem cx_42 (h : Cx w0 w C g m x rnd f st) :
    Calls Try.prog 88 #[.pointer (some ⟨x, 0, none⟩), .int .u16 42, .pointer (some ⟨m, 0, none⟩)] w (CxPost w0 w C g m x rnd (rcext13 42 f st)) := by
  rw [show rcext13 42 f st = ({ f with early := true }, st) from rfl]
  have hxm : x ≠ m := by have := h.hx; have := h.hm; omega
  have hmx : m ≠ x := fun e => hxm e.symm
  have hgx := h.hb.gne h.hx
  have hok := rV_ok (C := C) (g := g) (f := f) h.hr
  obtain ⟨T, fr, hg⟩ := h.hb.data
  have HG := Lib.hid hg
  have HX := Lib.hid h
  clear hg h
  obtain ⟨u, hc, _⟩ := HX.out.hb.at (b := 0) (i := 22) rfl rfl
  have hfz := HX.out.hb.frozen (b := 0) rfl 22
  go_enter Try.func88, Try.ntmps88
  go_wp2_with fail
  go_end0
  exact ⟨rfl, HX.out.hb.set (b := 0) (i := 22) rfl rfl (.val (.bool true)) _ rfl rfl, HX.out.ra.setOther _ _ _ hxm, (Kt.refl _ _).setCell _ _ _ (by simp)⟩

set_option maxRecDepth 100000 in
set_option maxHeartbeats 2000000 in
theorem cx_11 (h : Cx w0 w C g m x rnd f st) :
    Calls Try.prog 64 #[.pointer (some ⟨x, 0, none⟩), .int .u16 11, .pointer (some ⟨m, 0, none⟩)] w (CxPost w0 w C g m x rnd (rcext 11 f st)) := by
  rw [show rcext 11 f st = ({ f with points := (rvec 1 1 255 st).1 }, (rvec 1 1 255 st).2) from rfl]
  have hxm : x ≠ m := by have := h.hx; have := h.hm; omega
  have hmx : m ≠ x := fun e => hxm e.symm
  have hgx := h.hb.gne h.hx
  have hok := rV_ok (C := C) (g := g) (f := f) h.hr
  obtain ⟨T, fr, hg⟩ := h.hb.data
  have HG := Lib.hid hg
  have HX := Lib.hid h
  clear hg h
  go_enter Try.func64, Try.ntmps64
  go_wp2_with fail
  refine (vec_ok 1 1 255 w (by omega) HG.out hgx HX.out.ra).mono ?_
  rintro e w1 ⟨u, rfl, hv, hr, hf⟩
  have hl1 := rvec_len (k := 1) (low := 1) (high := 255) (st := st)
  have HV1 := Lib.hid hv
  obtain ⟨av1, cv1, rfl, _, _⟩ := hv.len
  have HB1 := Lib.hid (HX.out.hb.rd1 (hf.fs (l := [x]) (by simp)) HX.out.hx HX.out.ra HX.out.hm hok)
  have HG1 := Lib.hid ((hf.keep g (lt_of_heap HG.out) hgx).trans HG.out)
  have HR1 := Lib.hid hr
  have HK1 := Lib.hid ((hf.fs (l := [x]) (by simp)).kt.mono (l' := [m, x]) (by simp))
  clear hv hr hf
  obtain ⟨u8, hc8, _⟩ := HB1.out.at (b := 0) (i := 8) rfl rfl
  have hfz8 := HB1.out.frozen (b := 0) rfl 8
  go_wp2_with fail
  go_end0
  exact ⟨rfl, HB1.out.set (b := 0) (i := 8) rfl rfl (.vn _) _ rfl HV1.out, HR1.out.setOther _ _ _ hxm, HK1.out.setCell _ _ _ (by simp)⟩

set_option maxRecDepth 100000 in
set_option maxHeartbeats 2000000 in
theorem cx_44 (h : Cx w0 w C g m x rnd f st) :
    Calls Try.prog 88 #[.pointer (some ⟨x, 0, none⟩), .int .u16 44, .pointer (some ⟨m, 0, none⟩)] w (CxPost w0 w C g m x rnd (rcext13 44 f st)) := by
  rw [show rcext13 44 f st = ({ f with cookie := (rvec 2 1 65535 st).1 }, (rvec 2 1 65535 st).2) from rfl]
  have hxm : x ≠ m := by have := h.hx; have := h.hm; omega
  have hmx : m ≠ x := fun e => hxm e.symm
  have hgx := h.hb.gne h.hx
  have hok := rV_ok (C := C) (g := g) (f := f) h.hr
  obtain ⟨T, fr, hg⟩ := h.hb.data
  have HG := Lib.hid hg
  have HX := Lib.hid h
  clear hg h
  go_enter Try.func88, Try.ntmps88
  go_wp2_with fail
  refine (vec_ok 2 1 65535 w (by omega) HG.out hgx HX.out.ra).mono ?_
  rintro e w1 ⟨u, rfl, hv, hr, hf⟩
  have hl1 := rvec_len (k := 2) (low := 1) (high := 65535) (st := st)
  have HV1 := Lib.hid hv
  obtain ⟨av1, cv1, rfl, _, _⟩ := hv.len
  have HB1 := Lib.hid (HX.out.hb.rd1 (hf.fs (l := [x]) (by simp)) HX.out.hx HX.out.ra HX.out.hm hok)
  have HG1 := Lib.hid ((hf.keep g (lt_of_heap HG.out) hgx).trans HG.out)
  have HR1 := Lib.hid hr
  have HK1 := Lib.hid ((hf.fs (l := [x]) (by simp)).kt.mono (l' := [m, x]) (by simp))
  clear hv hr hf
  obtain ⟨u19, hc19, _⟩ := HB1.out.at (b := 0) (i := 19) rfl rfl
  have hfz19 := HB1.out.frozen (b := 0) rfl 19
  go_wp2_with fail
  go_end0
  exact ⟨rfl, HB1.out.set (b := 0) (i := 19) rfl rfl (.vn _) _ rfl HV1.out, HR1.out.setOther _ _ _ hxm, HK1.out.setCell _ _ _ (by simp)⟩

set_option maxRecDepth 100000 in
set_option maxHeartbeats 2000000 in
theorem cx_10 (h : Cx w0 w C g m x rnd f st) :
    Calls Try.prog 64 #[.pointer (some ⟨x, 0, none⟩), .int .u16 10, .pointer (some ⟨m, 0, none⟩)] w (CxPost w0 w C g m x rnd (rcext 10 f st)) := by
  rw [show rcext 10 f st = ({ f with curves := (rvw 2 65535 st).1 }, (rvw 2 65535 st).2) from rfl]
  have hxm : x ≠ m := by have := h.hx; have := h.hm; omega
  have hmx : m ≠ x := fun e => hxm e.symm
  have hgx := h.hb.gne h.hx
  have hok := rV_ok (C := C) (g := g) (f := f) h.hr
  obtain ⟨T, fr, hg⟩ := h.hb.data
  have HG := Lib.hid hg
  have HX := Lib.hid h
  clear hg h
  go_enter Try.func64, Try.ntmps64
  go_wp2_with fail
  refine (vec_ok 2 2 65535 w (by omega) HG.out hgx HX.out.ra).mono ?_
  rintro e w1 ⟨u, rfl, hv, hr, hf⟩
  have hl1 := rvec_len (k := 2) (low := 2) (high := 65535) (st := st)
  have HV1 := Lib.hid hv
  obtain ⟨av1, cv1, rfl, _, _⟩ := hv.len
  have HB1 := Lib.hid (HX.out.hb.rd1 (hf.fs (l := [x]) (by simp)) HX.out.hx HX.out.ra HX.out.hm hok)
  have HG1 := Lib.hid ((hf.keep g (lt_of_heap HG.out) hgx).trans HG.out)
  have HR1 := Lib.hid hr
  have HK1 := Lib.hid ((hf.fs (l := [x]) (by simp)).kt.mono (l' := [m, x]) (by simp))
  clear hv hr hf
  go_wp2_with fail
  refine (words_ok w1 HG1.out hgx (by omega) HV1.out HR1.out).mono ?_
  rintro e w2 ⟨o, rfl, ⟨us, hown, hus⟩, hr, hf⟩
  obtain ⟨ao, co, rfl⟩ := row_slice hown
  have HB2 := Lib.hid (HB1.out.rd1 hf HX.out.hx HR1.out HX.out.hm hok)
  have HH2 := Lib.hid (hf.keep m (HB1.out.lt (b := 0) rfl) (by simpa using hmx))
  have HO2 := Lib.hid hown
  have HU2 := Lib.hid hus
  have HR2 := Lib.hid hr
  have HK2 := Lib.hid (HK1.out.trans (hf.kt.mono (l' := [m, x]) (by simp)))
  clear hown hus hr hf
  obtain ⟨u7, hc7, _⟩ := HB2.out.at (b := 0) (i := 7) rfl rfl
  have hfz7 := HB2.out.frozen (b := 0) rfl 7
  go_wp2_with fail
  go_end0
  exact ⟨rfl, Bn.newrow HB1.out HB2.out HH2.out HO2.out (i := 7) rfl (ShowU _) HU2.out, HR2.out.setOther _ _ _ hxm, HK2.out.setCell _ _ _ (by simp)⟩

set_option maxRecDepth 100000 in
set_option maxHeartbeats 2000000 in
theorem cx_13 (h : Cx w0 w C g m x rnd f st) :
    Calls Try.prog 64 #[.pointer (some ⟨x, 0, none⟩), .int .u16 13, .pointer (some ⟨m, 0, none⟩)] w (CxPost w0 w C g m x rnd (rcext 13 f st)) := by
  rw [show rcext 13 f st = ({ f with sigs := (rvw 2 65535 st).1 }, (rvw 2 65535 st).2) from rfl]
  have hxm : x ≠ m := by have := h.hx; have := h.hm; omega
  have hmx : m ≠ x := fun e => hxm e.symm
  have hgx := h.hb.gne h.hx
  have hok := rV_ok (C := C) (g := g) (f := f) h.hr
  obtain ⟨T, fr, hg⟩ := h.hb.data
  have HG := Lib.hid hg
  have HX := Lib.hid h
  clear hg h
  go_enter Try.func64, Try.ntmps64
  go_wp2_with fail
  refine (vec_ok 2 2 65535 w (by omega) HG.out hgx HX.out.ra).mono ?_
  rintro e w1 ⟨u, rfl, hv, hr, hf⟩
  have hl1 := rvec_len (k := 2) (low := 2) (high := 65535) (st := st)
  have HV1 := Lib.hid hv
  obtain ⟨av1, cv1, rfl, _, _⟩ := hv.len
  have HB1 := Lib.hid (HX.out.hb.rd1 (hf.fs (l := [x]) (by simp)) HX.out.hx HX.out.ra HX.out.hm hok)
  have HG1 := Lib.hid ((hf.keep g (lt_of_heap HG.out) hgx).trans HG.out)
  have HR1 := Lib.hid hr
  have HK1 := Lib.hid ((hf.fs (l := [x]) (by simp)).kt.mono (l' := [m, x]) (by simp))
  clear hv hr hf
  go_wp2_with fail
  refine (words_ok w1 HG1.out hgx (by omega) HV1.out HR1.out).mono ?_
  rintro e w2 ⟨o, rfl, ⟨us, hown, hus⟩, hr, hf⟩
  obtain ⟨ao, co, rfl⟩ := row_slice hown
  have HB2 := Lib.hid (HB1.out.rd1 hf HX.out.hx HR1.out HX.out.hm hok)
  have HH2 := Lib.hid (hf.keep m (HB1.out.lt (b := 0) rfl) (by simpa using hmx))
  have HO2 := Lib.hid hown
  have HU2 := Lib.hid hus
  have HR2 := Lib.hid hr
  have HK2 := Lib.hid (HK1.out.trans (hf.kt.mono (l' := [m, x]) (by simp)))
  clear hown hus hr hf
  obtain ⟨u11, hc11, _⟩ := HB2.out.at (b := 0) (i := 11) rfl rfl
  have hfz11 := HB2.out.frozen (b := 0) rfl 11
  go_wp2_with fail
  go_end0
  exact ⟨rfl, Bn.newrow HB1.out HB2.out HH2.out HO2.out (i := 11) rfl (ShowU _) HU2.out, HR2.out.setOther _ _ _ hxm, HK2.out.setCell _ _ _ (by simp)⟩

set_option maxRecDepth 100000 in
set_option maxHeartbeats 2000000 in
theorem cx_50 (h : Cx w0 w C g m x rnd f st) :
    Calls Try.prog 64 #[.pointer (some ⟨x, 0, none⟩), .int .u16 50, .pointer (some ⟨m, 0, none⟩)] w (CxPost w0 w C g m x rnd (rcext 50 f st)) := by
  rw [show rcext 50 f st = ({ f with sigsC := (rvw 2 65535 st).1 }, (rvw 2 65535 st).2) from rfl]
  have hxm : x ≠ m := by have := h.hx; have := h.hm; omega
  have hmx : m ≠ x := fun e => hxm e.symm
  have hgx := h.hb.gne h.hx
  have hok := rV_ok (C := C) (g := g) (f := f) h.hr
  obtain ⟨T, fr, hg⟩ := h.hb.data
  have HG := Lib.hid hg
  have HX := Lib.hid h
  clear hg h
  go_enter Try.func64, Try.ntmps64
  go_wp2_with fail
  refine (vec_ok 2 2 65535 w (by omega) HG.out hgx HX.out.ra).mono ?_
  rintro e w1 ⟨u, rfl, hv, hr, hf⟩
  have hl1 := rvec_len (k := 2) (low := 2) (high := 65535) (st := st)
  have HV1 := Lib.hid hv
  obtain ⟨av1, cv1, rfl, _, _⟩ := hv.len
  have HB1 := Lib.hid (HX.out.hb.rd1 (hf.fs (l := [x]) (by simp)) HX.out.hx HX.out.ra HX.out.hm hok)
  have HG1 := Lib.hid ((hf.keep g (lt_of_heap HG.out) hgx).trans HG.out)
  have HR1 := Lib.hid hr
  have HK1 := Lib.hid ((hf.fs (l := [x]) (by simp)).kt.mono (l' := [m, x]) (by simp))
  clear hv hr hf
  go_wp2_with fail
  refine (words_ok w1 HG1.out hgx (by omega) HV1.out HR1.out).mono ?_
  rintro e w2 ⟨o, rfl, ⟨us, hown, hus⟩, hr, hf⟩
  obtain ⟨ao, co, rfl⟩ := row_slice hown
  have HB2 := Lib.hid (HB1.out.rd1 hf HX.out.hx HR1.out HX.out.hm hok)
  have HH2 := Lib.hid (hf.keep m (HB1.out.lt (b := 0) rfl) (by simpa using hmx))
  have HO2 := Lib.hid hown
  have HU2 := Lib.hid hus
  have HR2 := Lib.hid hr
  have HK2 := Lib.hid (HK1.out.trans (hf.kt.mono (l' := [m, x]) (by simp)))
  clear hown hus hr hf
  obtain ⟨u12, hc12, _⟩ := HB2.out.at (b := 0) (i := 12) rfl rfl
  have hfz12 := HB2.out.frozen (b := 0) rfl 12
  go_wp2_with fail
  go_end0
  exact ⟨rfl, Bn.newrow HB1.out HB2.out HH2.out HO2.out (i := 12) rfl (ShowU _) HU2.out, HR2.out.setOther _ _ _ hxm, HK2.out.setCell _ _ _ (by simp)⟩

set_option maxRecDepth 100000 in
set_option maxHeartbeats 2000000 in
theorem cx_43 (h : Cx w0 w C g m x rnd f st) :
    Calls Try.prog 88 #[.pointer (some ⟨x, 0, none⟩), .int .u16 43, .pointer (some ⟨m, 0, none⟩)] w (CxPost w0 w C g m x rnd (rcext13 43 f st)) := by
  rw [show rcext13 43 f st = ({ f with vers13 := (rvw 1 255 st).1 }, (rvw 1 255 st).2) from rfl]
  have hxm : x ≠ m := by have := h.hx; have := h.hm; omega
  have hmx : m ≠ x := fun e => hxm e.symm
  have hgx := h.hb.gne h.hx
  have hok := rV_ok (C := C) (g := g) (f := f) h.hr
  obtain ⟨T, fr, hg⟩ := h.hb.data
  have HG := Lib.hid hg
  have HX := Lib.hid h
  clear hg h
  go_enter Try.func88, Try.ntmps88
  go_wp2_with fail
  refine (vec_ok 1 2 255 w (by omega) HG.out hgx HX.out.ra).mono ?_
  rintro e w1 ⟨u, rfl, hv, hr, hf⟩
  have hl1 := rvec_len (k := 1) (low := 2) (high := 255) (st := st)
  have HV1 := Lib.hid hv
  obtain ⟨av1, cv1, rfl, _, _⟩ := hv.len
  have HB1 := Lib.hid (HX.out.hb.rd1 (hf.fs (l := [x]) (by simp)) HX.out.hx HX.out.ra HX.out.hm hok)
  have HG1 := Lib.hid ((hf.keep g (lt_of_heap HG.out) hgx).trans HG.out)
  have HR1 := Lib.hid hr
  have HK1 := Lib.hid ((hf.fs (l := [x]) (by simp)).kt.mono (l' := [m, x]) (by simp))
  clear hv hr hf
  go_wp2_with fail
  refine (words_ok w1 HG1.out hgx (by omega) HV1.out HR1.out).mono ?_
  rintro e w2 ⟨o, rfl, ⟨us, hown, hus⟩, hr, hf⟩
  obtain ⟨ao, co, rfl⟩ := row_slice hown
  have HB2 := Lib.hid (HB1.out.rd1 hf HX.out.hx HR1.out HX.out.hm hok)
  have HH2 := Lib.hid (hf.keep m (HB1.out.lt (b := 0) rfl) (by simpa using hmx))
  have HO2 := Lib.hid hown
  have HU2 := Lib.hid hus
  have HR2 := Lib.hid hr
  have HK2 := Lib.hid (HK1.out.trans (hf.kt.mono (l' := [m, x]) (by simp)))
  clear hown hus hr hf
  obtain ⟨u18, hc18, _⟩ := HB2.out.at (b := 0) (i := 18) rfl rfl
  have hfz18 := HB2.out.frozen (b := 0) rfl 18
  go_wp2_with fail
  go_end0
  exact ⟨rfl, Bn.newrow HB1.out HB2.out HH2.out HO2.out (i := 18) rfl (ShowU _) HU2.out, HR2.out.setOther _ _ _ hxm, HK2.out.setCell _ _ _ (by simp)⟩

set_option maxRecDepth 100000 in
set_option maxHeartbeats 2000000 in
theorem cx_35 (h : Cx w0 w C g m x rnd f st) :
    Calls Try.prog 64 #[.pointer (some ⟨x, 0, none⟩), .int .u16 35, .pointer (some ⟨m, 0, none⟩)] w (CxPost w0 w C g m x rnd (rcext 35 f st)) := by
  rw [show rcext 35 f st = ({ f with ticket := true, tickets := st.2 }, (st.1, [])) from rfl]
  have hxm : x ≠ m := by have := h.hx; have := h.hm; omega
  have hmx : m ≠ x := fun e => hxm e.symm
  have hgx := h.hb.gne h.hx
  have hok := rV_ok (C := C) (g := g) (f := f) h.hr
  obtain ⟨T, fr, hg⟩ := h.hb.data
  have HG := Lib.hid hg
  have HX := Lib.hid h
  clear hg h
  obtain ⟨code, bs⟩ := st
  obtain ⟨v, hh, hv⟩ := id HX.out.ra
  obtain ⟨a, cap, rfl, _, _⟩ := hv.len
  simp only at hh hv
  have f0 : w.cell? ⟨x, 0, none⟩ = some (.slice a bs.length cap) := by rw [cell_of_heap hh]; rfl
  clear hh hv
  go_enter Try.func64, Try.ntmps64
  go_wp2_with fail
  refine (take_yes bs.length w (Nat.le_refl _) HX.out.ra).mono ?_
  rintro e w1 ⟨u, rfl, hv, hr, hf⟩
  rw [List.take_length] at hv
  rw [List.drop_length] at hr
  have HV1 := Lib.hid hv
  obtain ⟨av1, cv1, rfl, _, _⟩ := hv.len
  have HB1 := Lib.hid (HX.out.hb.rd1 (hf.fs (l := [x]) (by simp)) HX.out.hx HX.out.ra HX.out.hm hok)
  have HR1 := Lib.hid hr
  have HK1 := Lib.hid ((hf.fs (l := [x]) (by simp)).kt.mono (l' := [m, x]) (by simp))
  clear hv hr hf f0
  obtain ⟨u9, hc9, _⟩ := HB1.out.at (b := 0) (i := 9) rfl rfl
  have hfz9 := HB1.out.frozen (b := 0) rfl 9
  obtain ⟨u10, hc10, _⟩ := HB1.out.at (b := 0) (i := 10) rfl rfl
  have hfz10 := HB1.out.frozen (b := 0) rfl 10
  go_wp2_with fail
  go_end0
  exact ⟨rfl, (HB1.out.set (b := 0) (i := 9) rfl rfl (.val (.bool true)) _ rfl rfl).set (b := 0) (i := 10) rfl rfl (.vn bs) _ rfl HV1.out, (HR1.out.setOther _ _ _ hxm).setOther _ _ _ hxm, (HK1.out.setCell _ _ _ (by simp)).setCell _ _ _ (by simp)⟩

set_option maxRecDepth 100000 in
set_option maxHeartbeats 2000000 in
theorem cx_57 (h : Cx w0 w C g m x rnd f st) :
    Calls Try.prog 88 #[.pointer (some ⟨x, 0, none⟩), .int .u16 57, .pointer (some ⟨m, 0, none⟩)] w (CxPost w0 w C g m x rnd (rcext13 57 f st)) := by
  rw [show rcext13 57 f st = ({ f with quic := some st.2 }, (st.1, [])) from rfl]
  have hxm : x ≠ m := by have := h.hx; have := h.hm; omega
  have hmx : m ≠ x := fun e => hxm e.symm
  have hgx := h.hb.gne h.hx
  have hok := rV_ok (C := C) (g := g) (f := f) h.hr
  obtain ⟨T, fr, hg⟩ := h.hb.data
  have HG := Lib.hid hg
  have HX := Lib.hid h
  clear hg h
  obtain ⟨code, bs⟩ := st
  obtain ⟨v, hh, hv⟩ := id HX.out.ra
  obtain ⟨a, cap, rfl, _, _⟩ := hv.len
  simp only at hh hv
  have f0 : w.cell? ⟨x, 0, none⟩ = some (.slice a bs.length cap) := by rw [cell_of_heap hh]; rfl
  clear hh hv
  go_enter Try.func88, Try.ntmps88
  go_wp2_with fail
  refine (take_yes bs.length w (Nat.le_refl _) HX.out.ra).mono ?_
  rintro e w1 ⟨u, rfl, hv, hr, hf⟩
  rw [List.take_length] at hv
  rw [List.drop_length] at hr
  have HV1 := Lib.hid hv
  obtain ⟨av1, cv1, rfl, _, _⟩ := hv.len
  have HB1 := Lib.hid (HX.out.hb.rd1 (hf.fs (l := [x]) (by simp)) HX.out.hx HX.out.ra HX.out.hm hok)
  have HR1 := Lib.hid hr
  have HK1 := Lib.hid ((hf.fs (l := [x]) (by simp)).kt.mono (l' := [m, x]) (by simp))
  clear hv hr hf f0
  obtain ⟨u27, hc27, _⟩ := HB1.out.at (b := 0) (i := 27) rfl rfl
  have hfz27 := HB1.out.frozen (b := 0) rfl 27
  obtain ⟨u28, hc28, _⟩ := HB1.out.at (b := 0) (i := 28) rfl rfl
  have hfz28 := HB1.out.frozen (b := 0) rfl 28
  go_wp2_with fail
  go_end0
  exact ⟨rfl, (HB1.out.set (b := 0) (i := 27) rfl rfl (.val (.bool true)) _ rfl rfl).set (b := 0) (i := 28) rfl rfl (.vn bs) _ rfl HV1.out, (HR1.out.setOther _ _ _ hxm).setOther _ _ _ hxm, (HK1.out.setCell _ _ _ (by simp)).setCell _ _ _ (by simp)⟩

set_option maxRecDepth 100000 in
set_option maxHeartbeats 2000000 in
theorem cx_65281 (h : Cx w0 w C g m x rnd f st) :
    Calls Try.prog 64 #[.pointer (some ⟨x, 0, none⟩), .int .u16 65281, .pointer (some ⟨m, 0, none⟩)] w (CxPost w0 w C g m x rnd (rcext 65281 f st)) := by
  rw [show rcext 65281 f st = ({ f with srs := true, sr := (rvec 1 0 255 st).1 }, (rvec 1 0 255 st).2) from rfl]
  have hxm : x ≠ m := by have := h.hx; have := h.hm; omega
  have hmx : m ≠ x := fun e => hxm e.symm
  have hgx := h.hb.gne h.hx
  have hok := rV_ok (C := C) (g := g) (f := f) h.hr
  obtain ⟨T, fr, hg⟩ := h.hb.data
  have HG := Lib.hid hg
  have HX := Lib.hid h
  clear hg h
  go_enter Try.func64, Try.ntmps64
  go_wp2_with fail
  refine (vec_ok 1 0 255 w (by omega) HG.out hgx HX.out.ra).mono ?_
  rintro e w1 ⟨u, rfl, hv, hr, hf⟩
  have hl1 := rvec_len (k := 1) (low := 0) (high := 255) (st := st)
  have HV1 := Lib.hid hv
  obtain ⟨av1, cv1, rfl, _, _⟩ := hv.len
  have HB1 := Lib.hid (HX.out.hb.rd1 (hf.fs (l := [x]) (by simp)) HX.out.hx HX.out.ra HX.out.hm hok)
  have HG1 := Lib.hid ((hf.keep g (lt_of_heap HG.out) hgx).trans HG.out)
  have HR1 := Lib.hid hr
  have HK1 := Lib.hid ((hf.fs (l := [x]) (by simp)).kt.mono (l' := [m, x]) (by simp))
  clear hv hr hf
  obtain ⟨u13, hc13, _⟩ := HB1.out.at (b := 0) (i := 13) rfl rfl
  have hfz13 := HB1.out.frozen (b := 0) rfl 13
  obtain ⟨u14, hc14, _⟩ := HB1.out.at (b := 0) (i := 14) rfl rfl
  have hfz14 := HB1.out.frozen (b := 0) rfl 14
  go_wp2_with fail
  go_end0
  exact ⟨rfl, (HB1.out.set (b := 0) (i := 13) rfl rfl (.val (.bool true)) _ rfl rfl).set (b := 0) (i := 14) rfl rfl (.vn _) _ rfl HV1.out, (HR1.out.setOther _ _ _ hxm).setOther _ _ _ hxm, (HK1.out.setCell _ _ _ (by simp)).setCell _ _ _ (by simp)⟩

set_option maxRecDepth 100000 in
set_option maxHeartbeats 2000000 in
theorem cx_65037 (h : Cx w0 w C g m x rnd f st) :
    Calls Try.prog 88 #[.pointer (some ⟨x, 0, none⟩), .int .u16 65037, .pointer (some ⟨m, 0, none⟩)] w (CxPost w0 w C g m x rnd (rcext13 65037 f st)) := by
  rw [show rcext13 65037 f st = ({ f with ech := (rrest st).1 }, (rrest st).2) from rfl]
  have hxm : x ≠ m := by have := h.hx; have := h.hm; omega
  have hmx : m ≠ x := fun e => hxm e.symm
  have hgx := h.hb.gne h.hx
  have hok := rV_ok (C := C) (g := g) (f := f) h.hr
  obtain ⟨T, fr, hg⟩ := h.hb.data
  have HG := Lib.hid hg
  have HX := Lib.hid h
  clear hg h
  go_enter Try.func88, Try.ntmps88
  go_wp2_with fail
  refine (rest_ok w HX.out.ra).mono ?_
  rintro e w1 ⟨u, rfl, hv, hr, hf⟩
  have HV1 := Lib.hid hv
  obtain ⟨av1, cv1, rfl, _, _⟩ := hv.len
  have HB1 := Lib.hid (HX.out.hb.rd1 (hf.fs (l := [x]) (by simp)) HX.out.hx HX.out.ra HX.out.hm hok)
  have HR1 := Lib.hid hr
  have HK1 := Lib.hid ((hf.fs (l := [x]) (by simp)).kt.mono (l' := [m, x]) (by simp))
  clear hv hr hf
  obtain ⟨u29, hc29, _⟩ := HB1.out.at (b := 0) (i := 29) rfl rfl
  have hfz29 := HB1.out.frozen (b := 0) rfl 29
  go_wp2_with fail
  go_end0
  exact ⟨rfl, HB1.out.set (b := 0) (i := 29) rfl rfl (.vn _) _ rfl HV1.out, HR1.out.setOther _ _ _ hxm, HK1.out.setCell _ _ _ (by simp)⟩

set_option maxRecDepth 100000 in
set_option maxHeartbeats 2000000 in
theorem cx_45 (h : Cx w0 w C g m x rnd f st) :
    Calls Try.prog 88 #[.pointer (some ⟨x, 0, none⟩), .int .u16 45, .pointer (some ⟨m, 0, none⟩)] w (CxPost w0 w C g m x rnd (rcext13 45 f st)) := by
  rw [show rcext13 45 f st = ({ f with modes := (rvec 1 0 255 st).1 }, rmodes st) from rfl]
  have hxm : x ≠ m := by have := h.hx; have := h.hm; omega
  have hmx : m ≠ x := fun e => hxm e.symm
  have hgx := h.hb.gne h.hx
  have hok := rV_ok (C := C) (g := g) (f := f) h.hr
  obtain ⟨T, fr, hg⟩ := h.hb.data
  have HG := Lib.hid hg
  have HX := Lib.hid h
  clear hg h
  have hk : Hid (rmodes st = if (rvec 1 0 255 st).1 = [] then rfail 1 (rvec 1 0 255 st).2 else (rvec 1 0 255 st).2) := Lib.hid rfl
  go_enter Try.func88, Try.ntmps88
  go_wp2_with fail
  refine (vec_ok 1 0 255 w (by omega) HG.out hgx HX.out.ra).mono ?_
  rintro e w1 ⟨u, rfl, hv, hr, hf⟩
  have hl1 := rvec_len (k := 1) (low := 0) (high := 255) (st := st)
  have HV1 := Lib.hid hv
  obtain ⟨av1, cv1, rfl, _, _⟩ := hv.len
  have HB1 := Lib.hid (HX.out.hb.rd1 (hf.fs (l := [x]) (by simp)) HX.out.hx HX.out.ra HX.out.hm hok)
  have HG1 := Lib.hid ((hf.keep g (lt_of_heap HG.out) hgx).trans HG.out)
  have HR1 := Lib.hid hr
  have HK1 := Lib.hid ((hf.fs (l := [x]) (by simp)).kt.mono (l' := [m, x]) (by simp))
  clear hv hr hf
  obtain ⟨u23, hc23, _⟩ := HB1.out.at (b := 0) (i := 23) rfl rfl
  have hfz23 := HB1.out.frozen (b := 0) rfl 23
  obtain ⟨s, hs⟩ : ∃ s, s = rvec 1 0 255 st := ⟨_, rfl⟩
  rw [← hs] at HV1 HR1 hl1 hk ⊢
  obtain ⟨bx, s2⟩ := s
  simp only at HV1 HR1 hl1 hk
  have HS : Hid ((rvec 1 0 255 st).1 = bx) := Lib.hid (by rw [← hs])
  clear hs
  have HB2 := Lib.hid (HB1.out.set (b := 0) (i := 23) rfl rfl (.vn bx) _ rfl HV1.out)
  have HR2 := Lib.hid (HR1.out.setOther m 23 (.slice av1 bx.length cv1) hxm)
  have HK2 := Lib.hid (HK1.out.setCell m 23 (.slice av1 bx.length cv1) (by simp))
  by_cases hbx : bx = []
  · have HKK : Hid (rmodes st = rfail 1 s2) := Lib.hid (hk.out.trans (if_pos hbx))
    subst hbx
    clear hk
    go_wp2_with fail
    refine (fail_ok 1 _ HR2.out).mono ?_
    rintro e w3 ⟨rfl, hr, hf⟩
    have HB3 := Lib.hid (HB2.out.rd1 (hf.fs (l := [x]) (by simp)) HX.out.hx HR2.out HX.out.hm hok)
    have HR3 := Lib.hid hr
    have HK3 := Lib.hid (HK2.out.trans ((hf.fs (l := [x]) (by simp)).kt.mono (l' := [m, x]) (by simp)))
    clear hr hf
    go_wp2_with fail
    go_end0
    exact ⟨rfl, by rw [HS.out]; exact HB3.out, by rw [HKK.out]; exact HR3.out, HK3.out⟩
  · have h1 : ¬ bx.length = 0 := fun e => hbx (List.length_eq_zero_iff.1 e)
    have h2 : ¬ ((bx.length : Nat) : Int) = 0 := by omega
    have h3 : (((bx.length : Nat) : Int) == 0) = false := by simpa using h1
    have HKK : Hid (rmodes st = s2) := Lib.hid (hk.out.trans (if_neg hbx))
    clear hbx hk
    go_wp2_with fail
    go_end0
    exact ⟨rfl, by rw [HS.out]; exact HB2.out, by rw [HKK.out]; exact HR2.out, HK2.out⟩

set_option maxRecDepth 100000 in
set_option maxHeartbeats 2000000 in
theorem cx_16 (h : Cx w0 w C g m x rnd f st) :
    Calls Try.prog 64 #[.pointer (some ⟨x, 0, none⟩), .int .u16 16, .pointer (some ⟨m, 0, none⟩)] w (CxPost w0 w C g m x rnd (rcext 16 f st)) := by
  rw [show rcext 16 f st = ({ f with alpn := (rvv st).1 }, (rvv st).2) from rfl]
  have hxm : x ≠ m := by have := h.hx; have := h.hm; omega
  have hmx : m ≠ x := fun e => hxm e.symm
  have hgx := h.hb.gne h.hx
  have hok := rV_ok (C := C) (g := g) (f := f) h.hr
  obtain ⟨T, fr, hg⟩ := h.hb.data
  have HG := Lib.hid hg
  have HX := Lib.hid h
  clear hg h
  go_enter Try.func64, Try.ntmps64
  go_wp2_with fail
  refine (vec_ok 2 2 65535 w (by omega) HG.out hgx HX.out.ra).mono ?_
  rintro e w1 ⟨u, rfl, hv, hr, hf⟩
  have hl1 := rvec_len (k := 2) (low := 2) (high := 65535) (st := st)
  have HV1 := Lib.hid hv
  obtain ⟨av1, cv1, rfl, _, _⟩ := hv.len
  have HB1 := Lib.hid (HX.out.hb.rd1 (hf.fs (l := [x]) (by simp)) HX.out.hx HX.out.ra HX.out.hm hok)
  have HG1 := Lib.hid ((hf.keep g (lt_of_heap HG.out) hgx).trans HG.out)
  have HR1 := Lib.hid hr
  have HK1 := Lib.hid ((hf.fs (l := [x]) (by simp)).kt.mono (l' := [m, x]) (by simp))
  clear hv hr hf
  go_wp2_with fail
  refine (rvectors_ok 1 1 w1 (by omega) HG1.out hgx (by omega) HV1.out HR1.out).mono ?_
  rintro e w2 ⟨o, rfl, ho, hr, hf⟩
  have HB2 := Lib.hid (HB1.out.rd1 hf HX.out.hx HR1.out HX.out.hm hok)
  have HG2 := Lib.hid ((hf.keep g (lt_of_heap HG1.out) (by simpa using hgx)).trans HG1.out)
  have HO2 := Lib.hid ho
  have HR2 := Lib.hid hr
  have HK2 := Lib.hid (HK1.out.trans (hf.kt.mono (l' := [m, x]) (by simp)))
  obtain ⟨us0, hown0, _⟩ := ho
  obtain ⟨ao0, co0, rfl⟩ := row_slice hown0
  have hll := rvecs_many2 1 1 (by omega) (rvec 2 2 65535 st).2 (rvec 2 2 65535 st).1
  clear hown0 hr hf
  go_wp2_with fail
  refine (texts_ok w2 HG2.out HO2.out (by omega)).mono ?_
  rintro e w3 ⟨o, us, rfl, hown, hus, hf⟩
  obtain ⟨ao, co, rfl⟩ := row_slice hown
  have HB3 := Lib.hid (HB2.out.keep hf)
  have HH3 := Lib.hid (hf.keep m (HB2.out.lt (b := 0) rfl) (by simp))
  have HO3 := Lib.hid hown
  have HU3 := Lib.hid hus
  have HR3 := Lib.hid (HR2.out.kt hf.kt (by simp))
  have HK3 := Lib.hid (HK2.out.trans (hf.kt.mono (l' := [m, x]) (by simp)))
  clear hown hus hf
  obtain ⟨u16, hc16, _⟩ := HB3.out.at (b := 0) (i := 16) rfl rfl
  have hfz16 := HB3.out.frozen (b := 0) rfl 16
  go_wp2_with fail
  go_end0
  exact ⟨rfl, Bn.newrow HB2.out HB3.out HH3.out HO3.out (i := 16) rfl (ShowT _) HU3.out, HR3.out.setOther _ _ _ hxm, HK3.out.setCell _ _ _ (by simp)⟩

set_option maxRecDepth 100000 in
set_option maxHeartbeats 2000000 in
theorem cx13_other (kind : Nat) (h43 : ¬ kind = 43) (h44 : ¬ kind = 44) (h51 : ¬ kind = 51) (h42 : ¬ kind = 42) (h45 : ¬ kind = 45) (h57 : ¬ kind = 57) (h65037 : ¬ kind = 65037) (h41 : ¬ kind = 41) (h : Cx w0 w C g m x rnd f st) :
    Calls Try.prog 88 #[.pointer (some ⟨x, 0, none⟩), .int .u16 kind, .pointer (some ⟨m, 0, none⟩)] w (CxPost w0 w C g m x rnd (rcext13 kind f st)) := by
  have hres : rcext13 kind f st = (f, (st.1, [])) := by
    unfold rcext13
    rw [if_neg h43, if_neg h44, if_neg h51, if_neg h42, if_neg h45, if_neg h57, if_neg h65037, if_neg h41]
  rw [hres]
  have k43 : ¬ ((kind : Nat) : Int) = 43 := by omega
  have k44 : ¬ ((kind : Nat) : Int) = 44 := by omega
  have k51 : ¬ ((kind : Nat) : Int) = 51 := by omega
  have k42 : ¬ ((kind : Nat) : Int) = 42 := by omega
  have k45 : ¬ ((kind : Nat) : Int) = 45 := by omega
  have k57 : ¬ ((kind : Nat) : Int) = 57 := by omega
  have k65037 : ¬ ((kind : Nat) : Int) = 65037 := by omega
  have k41 : ¬ ((kind : Nat) : Int) = 41 := by omega
  clear hres h43 h44 h51 h42 h45 h57 h65037 h41
  have hxm : x ≠ m := by have := h.hx; have := h.hm; omega
  have hmx : m ≠ x := fun e => hxm e.symm
  have hgx := h.hb.gne h.hx
  have hok := rV_ok (C := C) (g := g) (f := f) h.hr
  obtain ⟨T, fr, hg⟩ := h.hb.data
  have HG := Lib.hid hg
  have HX := Lib.hid h
  clear hg h
  obtain ⟨code, bs⟩ := st
  obtain ⟨v, hh, hv⟩ := id HX.out.ra
  obtain ⟨a, cap, rfl, _, _⟩ := hv.len
  simp only at hh hv
  have f0 : w.cell? ⟨x, 0, none⟩ = some (.slice a bs.length cap) := by rw [cell_of_heap hh]; rfl
  clear hh hv
  go_enter Try.func88, Try.ntmps88
  go_wp2_with fail
  refine (take_yes bs.length w (Nat.le_refl _) HX.out.ra).mono ?_
  rintro e w1 ⟨u, rfl, hv, hr, hf⟩
  rw [List.drop_length] at hr
  have HB1 := Lib.hid (HX.out.hb.rd1 (hf.fs (l := [x]) (by simp)) HX.out.hx HX.out.ra HX.out.hm hok)
  have HR1 := Lib.hid hr
  have HK1 := Lib.hid ((hf.fs (l := [x]) (by simp)).kt.mono (l' := [m, x]) (by simp))
  clear hv hr hf f0
  go_wp2_with fail
  go_end0
  exact ⟨rfl, HB1.out, HR1.out, HK1.out⟩

set_option maxRecDepth 100000 in
set_option maxHeartbeats 2000000 in
theorem cx_5 (h : Cx w0 w C g m x rnd f st) :
    Calls Try.prog 64 #[.pointer (some ⟨x, 0, none⟩), .int .u16 5, .pointer (some ⟨m, 0, none⟩)] w (CxPost w0 w C g m x rnd (rcext 5 f st)) := by
  rw [show rcext 5 f st = ({ f with ocsp := true }, (rvec 2 0 65535 (rvec 2 0 65535 (rkind 1 st)).2).2) from rfl]
  have hxm : x ≠ m := by have := h.hx; have := h.hm; omega
  have hmx : m ≠ x := fun e => hxm e.symm
  have hgx := h.hb.gne h.hx
  have hok := rV_ok (C := C) (g := g) (f := f) h.hr
  obtain ⟨T, fr, hg⟩ := h.hb.data
  have HG := Lib.hid hg
  have HX := Lib.hid h
  clear hg h
  go_enter Try.func64, Try.ntmps64
  go_wp2_with fail
  refine (num_ok 1 w (by omega) HG.out hgx HX.out.ra).mono ?_
  rintro e w1 ⟨rfl, hr, hf⟩
  have hk : Hid (rkind 1 st = if (rnum 1 st).1 = 1 then (rnum 1 st).2 else rfail 1 (rnum 1 st).2) := Lib.hid rfl
  obtain ⟨s, hs⟩ : ∃ s, s = rnum 1 st := ⟨_, rfl⟩
  rw [← hs] at hr hk ⊢
  obtain ⟨n, s1⟩ := s
  simp only at hr hk ⊢
  have HB1 := Lib.hid (HX.out.hb.rd1 (hf.fs (l := [x]) (by simp)) HX.out.hx HX.out.ra HX.out.hm hok)
  have HG1 := Lib.hid ((hf.keep g (lt_of_heap HG.out) hgx).trans HG.out)
  have HR1 := Lib.hid hr
  have HK1 := Lib.hid ((hf.fs (l := [x]) (by simp)).kt.mono (l' := [m, x]) (by simp))
  clear hr hf hs
  by_cases hn : n = 1
  · have HKK : Hid (rkind 1 st = s1) := Lib.hid (hk.out.trans (if_pos hn))
    subst hn
    clear hk
    go_wp2_with fail
    refine (vec_ok 2 0 65535 _ (by omega) HG1.out hgx HR1.out).mono ?_
    rintro e w5 ⟨u, rfl, hv, hr, hf⟩
    obtain ⟨av, cv, rfl, _, _⟩ := hv.len
    have HB5 := Lib.hid (HB1.out.rd1 (hf.fs (l := [x]) (by simp)) HX.out.hx HR1.out HX.out.hm hok)
    have HG5 := Lib.hid ((hf.keep g (lt_of_heap HG1.out) hgx).trans HG1.out)
    have HR5 := Lib.hid hr
    have HK5 := Lib.hid (HK1.out.trans ((hf.fs (l := [x]) (by simp)).kt.mono (l' := [m, x]) (by simp)))
    clear hv hr hf
    go_wp2_with fail
    refine (vec_ok 2 0 65535 _ (by omega) HG5.out hgx HR5.out).mono ?_
    rintro e w6 ⟨u, rfl, hv, hr, hf⟩
    obtain ⟨av2, cv2, rfl, _, _⟩ := hv.len
    have HB6 := Lib.hid (HB5.out.rd1 (hf.fs (l := [x]) (by simp)) HX.out.hx HR5.out HX.out.hm hok)
    have HR6 := Lib.hid hr
    have HK6 := Lib.hid (HK5.out.trans ((hf.fs (l := [x]) (by simp)).kt.mono (l' := [m, x]) (by simp)))
    clear hv hr hf
    obtain ⟨u6, hc6, _⟩ := HB6.out.at (b := 0) (i := 6) rfl rfl
    have hfz6 := HB6.out.frozen (b := 0) rfl 6
    go_wp2_with fail
    go_end0
    exact ⟨rfl, HB6.out.set (b := 0) (i := 6) rfl rfl (.val (.bool true)) _ rfl rfl, by rw [HKK.out]; exact HR6.out.setOther _ _ _ hxm, HK6.out.setCell _ _ _ (by simp)⟩
  · have HKK : Hid (rkind 1 st = rfail 1 s1) := Lib.hid (hk.out.trans (if_neg hn))
    clear hk
    have h1 : ¬ ((n : Nat) : Int) = 1 := by omega
    have h2 : (((n : Nat) : Int) == 1) = false := by simp; omega
    go_wp2_with fail
    refine (fail_ok 1 w1 HR1.out).mono ?_
    rintro e w2 ⟨rfl, hr, hf⟩
    have HB2 := Lib.hid (HB1.out.rd1 (hf.fs (l := [x]) (by simp)) HX.out.hx HR1.out HX.out.hm hok)
    have HG2 := Lib.hid ((hf.keep g (lt_of_heap HG1.out) hgx).trans HG1.out)
    have HR2 := Lib.hid hr
    have HK2 := Lib.hid (HK1.out.trans ((hf.fs (l := [x]) (by simp)).kt.mono (l' := [m, x]) (by simp)))
    clear hr hf
    go_wp2_with fail
    refine (vec_ok 2 0 65535 _ (by omega) HG2.out hgx HR2.out).mono ?_
    rintro e w5 ⟨u, rfl, hv, hr, hf⟩
    obtain ⟨av, cv, rfl, _, _⟩ := hv.len
    have HB5 := Lib.hid (HB2.out.rd1 (hf.fs (l := [x]) (by simp)) HX.out.hx HR2.out HX.out.hm hok)
    have HG5 := Lib.hid ((hf.keep g (lt_of_heap HG2.out) hgx).trans HG2.out)
    have HR5 := Lib.hid hr
    have HK5 := Lib.hid (HK2.out.trans ((hf.fs (l := [x]) (by simp)).kt.mono (l' := [m, x]) (by simp)))
    clear hv hr hf
    go_wp2_with fail
    refine (vec_ok 2 0 65535 _ (by omega) HG5.out hgx HR5.out).mono ?_
    rintro e w6 ⟨u, rfl, hv, hr, hf⟩
    obtain ⟨av2, cv2, rfl, _, _⟩ := hv.len
    have HB6 := Lib.hid (HB5.out.rd1 (hf.fs (l := [x]) (by simp)) HX.out.hx HR5.out HX.out.hm hok)
    have HR6 := Lib.hid hr
    have HK6 := Lib.hid (HK5.out.trans ((hf.fs (l := [x]) (by simp)).kt.mono (l' := [m, x]) (by simp)))
    clear hv hr hf
    obtain ⟨u6, hc6, _⟩ := HB6.out.at (b := 0) (i := 6) rfl rfl
    have hfz6 := HB6.out.frozen (b := 0) rfl 6
    go_wp2_with fail
    go_end0
    exact ⟨rfl, HB6.out.set (b := 0) (i := 6) rfl rfl (.val (.bool true)) _ rfl rfl, by rw [HKK.out]; exact HR6.out.setOther _ _ _ hxm, HK6.out.setCell _ _ _ (by simp)⟩

end
end Go.Proofs.Ytopcljikkdlffaa
