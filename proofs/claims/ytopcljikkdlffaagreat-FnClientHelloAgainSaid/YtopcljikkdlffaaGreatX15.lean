/- clientHelloMsg.marshalMsg of package tls. No statement of the seat is proved here. -/
import Derived.Test.YtopcljikkdlffaaGreatX14
namespace Go.Proofs.YtopcljikkdlffaaGreat
open Go.RowKit

set_option maxRecDepth 100000 in
set_option maxHeartbeats 4000000 in
theorem ec_18 {base q x y m zz : Nat} {f : CH} {v : Value} {X : List UInt8} (w : World) (K : ChK f) (hX : X.length < 65536) (hM : MsgC w base x m (chS f)) (hY : w.heap[y]? = some (.cells #[.bool false] 4 (0, 0))) (hyb : y < base) (hz : w.heap[zz]? = some (.cells #[v] 22 (0, 0))) (hzq : zz ≠ q) (hv : SrcB w base v X) (hbq : base ≤ q) (hbw : base ≤ w.heap.size) :
    Emits base q 92 #[.pointer (some ⟨x, 0, none⟩), .pointer (some ⟨y, 0, none⟩), .pointer (some ⟨zz, 0, none⟩)] (en 2 f.vers ++ f.random ++ (en 1 f.session.length ++ f.session) ++ (en 2 (wnums 2 f.suites).length ++ wnums 2 f.suites) ++ (en 1 f.comps.length ++ f.comps) ++ (if X = [] then [] else en 2 X.length ++ X)) w := by
  obtain ⟨XO, hXO⟩ : ∃ XO, XO = (if X = [] then [] else en 2 X.length ++ X) := ⟨_, rfl⟩
  rw [← hXO]
  have HXO := Lib.hid hXO
  clear hXO
  intro c off pl bs w' hk hf hB hl
  have hM' := hM.ks hk hbq
  have HM := Lib.hid hM'
  have HB := Lib.hid hB
  have HF := Lib.hid hf
  have HY := Lib.hid (hk.other hY (by decide) (by omega))
  have HZ := Lib.hid (hk.other hz (by decide) hzq)
  have HV := Lib.hid (hv.ks hk hbq)
  have hsz : base ≤ w'.heap.size := Nat.le_trans hbw hk.size
  have cx := hM'.cell
  have q1 := hM'.val (i := 1) rfl
  have HL := Lib.hid hl
  have hl0 : bs.length + 2 + 32 + 1 + f.session.length + 2 + (wnums 2 f.suites).length + 1 + f.comps.length ≤ 70368744177664 := by
    have := K.r.random
    simp only [List.length_append, en_length] at hl
    omega
  have kv := K.r.vers
  have kr := K.r.random
  have ks := K.r.session
  have ku := K.r.suitesn
  have kc := K.r.comps
  clear hk hf hB hM hM' hY hz hv hl
  simp only [List.append_toArray, List.cons_append, List.nil_append]
  go_enter Tryz.func92, Tryz.ntmps92
  go_wp2_with fail
  refine (add16_ok _ w' (by omega) (by omega) HB.out (by omega)).mono ?_
  rintro e w1 ⟨rfl, hb, hfr⟩
  rw [Int.toNat_natCast] at hb
  have hK : Ks base q w' w1 := Ks.of_fr hfr (.inr HB.out.isBld)
  have HB1 := Lib.hid hb
  have FR1 := Lib.hid (hfr)
  have HM1 := Lib.hid (HM.out.ks hK hbq)
  have HF1 := Lib.hid (hfr.flag HF.out (HB.out.ne_flag HF.out))
  have HY1 := Lib.hid (hK.other HY.out (by decide) (by omega))
  have HZ1 := Lib.hid (hK.other HZ.out (by decide) hzq)
  have HV1 := Lib.hid (HV.out.ks hK hbq)
  have hsz1 : base ≤ w1.heap.size := Nat.le_trans hsz hfr.size
  clear hb hfr hK
  obtain ⟨vr, qr, hvr⟩ := HM1.out.at (i := 2) rfl
  have HVR : Hid (SrcB w1 base vr f.random) := Lib.hid hvr
  have cx1 := HM1.out.cell
  clear hvr q1 cx
  go_wp2_with fail
  refine (abwl_ok w1 HB1.out HVR.out (by omega) (by simp only [List.length_append, en_length]; omega) 32 (by omega)).mono ?_
  rintro e w2 ⟨rfl, hb, hfr⟩
  have hK : Ks base q w1 w2 := Ks.of_fr hfr (.inr HB1.out.isBld)
  have HB2 := Lib.hid hb
  have FR2 := Lib.hid (FR1.out.trans hfr)
  have HM2 := Lib.hid (HM1.out.ks hK hbq)
  have HF2 := Lib.hid (hfr.flag HF1.out (HB1.out.ne_flag HF1.out))
  have HY2 := Lib.hid (hK.other HY1.out (by decide) (by omega))
  have HZ2 := Lib.hid (hK.other HZ1.out (by decide) hzq)
  have HV2 := Lib.hid (HV1.out.ks hK hbq)
  have hsz2 : base ≤ w2.heap.size := Nat.le_trans hsz1 hfr.size
  clear hb hfr hK
  clear qr cx1
  go_wp2_with fail
  refine (lp1_flag (out := f.session) w2 ks HB2.out HF2.out (by simp only [List.length_append, en_length]; omega) (enter_of Tryz.func94 (by kernel_rfl) (by kernel_rfl)) (ec_18a w2 HM2.out HY2.out hyb hbq)).mono ?_
  rintro e w3 ⟨rfl, hb, hfr⟩
  have hK : Ks base q w2 w3 := Ks.of_fr hfr (.inr HB2.out.isBld)
  have HB3 := Lib.hid hb
  have FR3 := Lib.hid (FR2.out.trans hfr)
  have HM3 := Lib.hid (HM2.out.ks hK hbq)
  have HF3 := Lib.hid (hfr.flag HF2.out (HB2.out.ne_flag HF2.out))
  have HY3 := Lib.hid (hK.other HY2.out (by decide) (by omega))
  have HZ3 := Lib.hid (hK.other HZ2.out (by decide) hzq)
  have HV3 := Lib.hid (HV2.out.ks hK hbq)
  have hsz3 : base ≤ w3.heap.size := Nat.le_trans hsz2 hfr.size
  clear hb hfr hK
  go_wp2_with fail
  refine (lp2_flag (out := wnums 2 f.suites) w3 (by rw [wnums_len]; omega) HB3.out HF3.out (by simp only [List.length_append, en_length]; omega) (enter_of Tryz.func95 (by kernel_rfl) (by kernel_rfl)) (ec_18b w3 HM3.out hbq K.r.suites (by omega))).mono ?_
  rintro e w4 ⟨rfl, hb, hfr⟩
  have hK : Ks base q w3 w4 := Ks.of_fr hfr (.inr HB3.out.isBld)
  have HB4 := Lib.hid hb
  have FR4 := Lib.hid (FR3.out.trans hfr)
  have HM4 := Lib.hid (HM3.out.ks hK hbq)
  have HF4 := Lib.hid (hfr.flag HF3.out (HB3.out.ne_flag HF3.out))
  have HY4 := Lib.hid (hK.other HY3.out (by decide) (by omega))
  have HZ4 := Lib.hid (hK.other HZ3.out (by decide) hzq)
  have HV4 := Lib.hid (HV3.out.ks hK hbq)
  have hsz4 : base ≤ w4.heap.size := Nat.le_trans hsz3 hfr.size
  clear hb hfr hK
  go_wp2_with fail
  refine (lp1_flag (out := f.comps) w4 kc HB4.out HF4.out (by simp only [List.length_append, en_length]; omega) (enter_of Tryz.func96 (by kernel_rfl) (by kernel_rfl)) (ec_18c w4 HM4.out hbq)).mono ?_
  rintro e w5 ⟨rfl, hb, hfr⟩
  have hK : Ks base q w4 w5 := Ks.of_fr hfr (.inr HB4.out.isBld)
  have HB5 := Lib.hid hb
  have FR5 := Lib.hid (FR4.out.trans hfr)
  have HM5 := Lib.hid (HM4.out.ks hK hbq)
  have HF5 := Lib.hid (hfr.flag HF4.out (HB4.out.ne_flag HF4.out))
  have HY5 := Lib.hid (hK.other HY4.out (by decide) (by omega))
  have HZ5 := Lib.hid (hK.other HZ4.out (by decide) hzq)
  have HV5 := Lib.hid (HV4.out.ks hK hbq)
  have hsz5 : base ≤ w5.heap.size := Nat.le_trans hsz4 hfr.size
  clear hb hfr hK
  have cz := cell_head HZ5.out
  obtain ⟨av, kav, hve⟩ := HV5.out.len
  subst hve
  by_cases h0 : X = []
  · subst h0
    have E0 := Lib.hid (show XO = [] by rw [HXO.out]; exact if_pos rfl)
    go_wp2_with fail
    go_end0
    refine ⟨rfl, ?_, FR5.out⟩
    rw [E0.out]
    have h := HB5.out
    simpa only [List.append_assoc, List.append_nil] using h
  · have hp : 0 < X.length := List.length_pos_iff.2 h0
    have hp2 : (0 : Int) < (X.length : Int) := by omega
    have E0 := Lib.hid (show XO = en 2 X.length ++ X by rw [HXO.out]; exact if_neg h0)
    have hl5 := HL.out
    rw [E0.out] at hl5
    clear h0
    have HL5 := Lib.hid hl5
    clear hl5
    go_wp2_with fail
    refine (lp2_flag (out := X) w5 hX HB5.out HF5.out (by have h := HL5.out; simp only [List.length_append, en_length] at h ⊢; omega) (enter_of Tryz.func97 (by kernel_rfl) (by kernel_rfl)) (ec_18d w5 HZ5.out HV5.out hzq hbq)).mono ?_
    rintro e w6 ⟨rfl, hb, hfr⟩
    have HB6 := Lib.hid hb
    have FR6 := Lib.hid (FR5.out.trans hfr)
    clear hb hfr
    go_wp2_with fail
    go_end0
    refine ⟨rfl, ?_, FR6.out⟩
    rw [E0.out]
    have h := HB6.out
    simpa only [List.append_assoc] using h

/-- A clientHelloMsg in block m. -/
def ChIn (w : World) (base m : Nat) (f : CH) : Prop := ∃ D : Array Value, w.heap[m]? = some (.cells D 54 (0, 0)) ∧ m < base ∧ ∀ (i : Nat) (cd : CD), (chS f)[i]? = some cd → ∃ v, D[i]? = some v ∧ CRel w base cd v

set_option maxRecDepth 100000 in
set_option maxHeartbeats 16000000 in
theorem ch_marshalMsg {m : Nat} {f : CH} (w : World) (K : ChK f) (hm : ChIn w w.heap.size m f) :
    Calls Tryz.prog 41 #[.pointer (some ⟨m, 0, none⟩), .bool false] w fun e w' => ∃ v, e = .returned (.tuple #[v, .nilIface]) ∧ w'.ownsRow w.heap.size 5 1 v (wCH f).length ((wCH f).map by8) ∧ Below w.heap.size w w' := by
  obtain ⟨D, hD, hml, hr⟩ := hm
  obtain ⟨W, hW⟩ : ∃ W, W = ((w.alloc (.cells #[.pointer (some ⟨m, 0, none⟩)] 50)).alloc (.cells #[.bool false] 4)).alloc (.cells #[.nilIface, .slice none 0 0, .bool false, .pointer none, .int .i64 0, .int .i64 0, .bool false, .pointer none] 96) := ⟨_, rfl⟩
  obtain ⟨sz, hsz⟩ : ∃ sz, sz = w.heap.size := ⟨_, rfl⟩
  have hk : ∀ k, k < w.heap.size → W.heap[k]? = w.heap[k]? := fun k hk => by rw [hW]; exact (Below.heap_alloc _ _ _ (by simp; omega)).trans ((Below.heap_alloc _ _ _ (by simp; omega)).trans (Below.heap_alloc _ _ _ hk))
  have hws : W.heap.size = sz + 3 := by rw [hW, hsz]; simp
  have HX0 : W.heap[sz]? = some (.cells #[.pointer (some ⟨m, 0, none⟩)] 50 (0, 0)) := by rw [hW, hsz]; exact heap_push (heap_push (heap_alloc_new _ _))
  have HY0 : Hid (W.heap[sz + 1]? = some (.cells #[.bool false] 4 (0, 0))) := Lib.hid (by
    have h := heap_alloc_new (w.alloc (.cells #[.pointer (some ⟨m, 0, none⟩)] 50)) (.cells #[.bool false] 4)
    rw [World.size_alloc, ← hsz] at h
    rw [hW]; exact heap_push h)
  have HM0 : Hid (MsgC W (sz + 2) sz m (chS f)) := Lib.hid ⟨HX0, by omega, by omega, D, (hk m hml).trans hD, fun i cd hi => by
    obtain ⟨v, hv, hs⟩ := hr i cd hi
    exact ⟨v, hv, hs.keep (by omega) fun k h => hk k h⟩⟩
  have HB0 : Hid (BS W (sz + 2) (sz + 2) []) := Lib.hid (by
    have h := BS.new ((w.alloc (.cells #[.pointer (some ⟨m, 0, none⟩)] 50)).alloc (.cells #[.bool false] 4)) (base := sz + 2) (by simp; omega)
    rw [World.size_alloc, World.size_alloc, ← hsz] at h
    rw [hW]; exact h)
  have FR0 : Hid (Below w.heap.size w W) := Lib.hid (by rw [hW]; exact (((Below.refl _ w).alloc (Nat.le_refl _) _).alloc (by simp) _).alloc (by simp; omega) _)
  have HW := Lib.hid hW
  have HWS := Lib.hid hws
  have HSZ := Lib.hid hsz
  clear hD hr hW hk hws HX0 hml
  go_enter Tryz.func41, Tryz.ntmps41
  go_upto_region 2 with fail
  rw [← HW.out]
  rw [← hsz] at FR0 ⊢
  clear hsz
  have FRC0 : Hid (Fr (sz + 2) (sz + 2) W W) := Lib.hid (Fr.refl _ _ _)
  obtain ⟨B0, hB0⟩ : ∃ B, B = ([] : List UInt8) := ⟨_, rfl⟩
  rw [← hB0] at HB0
  have hn0 : B0.length ≤ 0 := by rw [hB0]; simp
  have HE0 := Lib.hid hB0
  clear hB0
  go_upto_region 2 with fail
  refine Code.wp_mono (Q := CtPost sz (sz + 1) (sz + 2) undef 16 (decide (0 < f.name.length)) W) ?_ (ct_0 W K ⟨rfl, rfl, rfl, rfl, rfl, rfl⟩ HM0.out HY0.out)
  rintro e a' w' ⟨rfl, rfl, hA, hT⟩
  simp only [Exit.then]
  go_upto_if 16 with fail
  have hlen := cl0 (f := f) (bs := B0) K
  refine Code.wp_mono (Q := CePost W (sz + 2) sz (sz + 1) m (sz + 2) undef (chS f) (B0 ++ encE (onE (0 < f.name.length) 0 (en 2 (en 1 0 ++ en 2 f.name.length ++ f.name).length ++ (en 1 0 ++ en 2 f.name.length ++ f.name))))) ?_ (ce_0 W K hA hT HB0.out HM0.out HY0.out (by omega))
  clear hA hT
  rintro e a' w1 ⟨rfl, hA, hB, hM, hF⟩
  simp only [Exit.then]
  obtain ⟨hdf, hs, h2, h3, h6, h7⟩ := hA
  obtain ⟨s', dl⟩ := a'
  simp only at hdf hs h2 h3 h6 h7
  subst hdf
  obtain ⟨z1, rfl⟩ := arr258 s' hs
  have e2 : z1 2 = .pointer (some ⟨sz, 0, none⟩) := Option.some.inj h2
  have e3 : z1 3 = .pointer (some ⟨sz + 1, 0, none⟩) := Option.some.inj h3
  have e6 : z1 6 = .pointer (some ⟨sz + 2, 0, none⟩) := Option.some.inj h6
  have e7 : z1 7 = undef := Option.some.inj h7
  rw [e2, e3, e6, e7]
  clear hs h2 h3 h6 h7 e2 e3 e6 e7
  obtain ⟨B1, hBn⟩ : ∃ B, B = B0 ++ encE (onE (0 < f.name.length) 0 (en 2 (en 1 0 ++ en 2 f.name.length ++ f.name).length ++ (en 1 0 ++ en 2 f.name.length ++ f.name))) := ⟨_, rfl⟩
  rw [← hBn] at hB hlen
  have HE1b := Lib.hid hBn
  have HB1 := Lib.hid hB
  have HM1 := Lib.hid hM
  have HY1 := Lib.hid (hF.other HY0.out (by decide) (by omega))
  have FRC1 := Lib.hid (FRC0.out.trans hF)
  have hn1 : B1.length ≤ 1 * 64000 := by omega
  clear hBn hB hM hF hlen hn0
  go_upto_region 5 with fail
  refine Code.wp_mono (Q := CtPost sz (sz + 1) (sz + 2) undef 29 (decide (0 < f.points.length)) w1) ?_ (ct_1 w1 K ⟨rfl, rfl, rfl, rfl, rfl, rfl⟩ HM1.out HY1.out)
  rintro e a' w' ⟨rfl, rfl, hA, hT⟩
  simp only [Exit.then]
  go_upto_if 29 with fail
  have hlen := cl1 (f := f) (bs := B1) K
  refine Code.wp_mono (Q := CePost w1 (sz + 2) sz (sz + 1) m (sz + 2) undef (chS f) (B1 ++ encE (onE (0 < f.points.length) 11 (en 1 f.points.length ++ f.points)))) ?_ (ce_1 w1 K hA hT HB1.out HM1.out HY1.out (by omega))
  clear hA hT
  rintro e a' w2 ⟨rfl, hA, hB, hM, hF⟩
  simp only [Exit.then]
  obtain ⟨hdf, hs, h2, h3, h6, h7⟩ := hA
  obtain ⟨s', dl⟩ := a'
  simp only at hdf hs h2 h3 h6 h7
  subst hdf
  obtain ⟨z2, rfl⟩ := arr258 s' hs
  have e2 : z2 2 = .pointer (some ⟨sz, 0, none⟩) := Option.some.inj h2
  have e3 : z2 3 = .pointer (some ⟨sz + 1, 0, none⟩) := Option.some.inj h3
  have e6 : z2 6 = .pointer (some ⟨sz + 2, 0, none⟩) := Option.some.inj h6
  have e7 : z2 7 = undef := Option.some.inj h7
  rw [e2, e3, e6, e7]
  clear hs h2 h3 h6 h7 e2 e3 e6 e7
  obtain ⟨B2, hBn⟩ : ∃ B, B = B1 ++ encE (onE (0 < f.points.length) 11 (en 1 f.points.length ++ f.points)) := ⟨_, rfl⟩
  rw [← hBn] at hB hlen
  have HE2b := Lib.hid hBn
  have HB2 := Lib.hid hB
  have HM2 := Lib.hid hM
  have HY2 := Lib.hid (hF.other HY1.out (by decide) (by omega))
  have FRC2 := Lib.hid (FRC1.out.trans hF)
  have hn2 : B2.length ≤ 2 * 64000 := by omega
  clear hBn hB hM hF hlen hn1
  go_upto_region 8 with fail
  refine Code.wp_mono (Q := CtPost sz (sz + 1) (sz + 2) undef 40 f.ticket w2) ?_ (ct_2 w2 K ⟨rfl, rfl, rfl, rfl, rfl, rfl⟩ HM2.out HY2.out)
  rintro e a' w' ⟨rfl, rfl, hA, hT⟩
  simp only [Exit.then]
  go_upto_if 40 with fail
  have hlen := cl2 (f := f) (bs := B2) K
  refine Code.wp_mono (Q := CePost w2 (sz + 2) sz (sz + 1) m (sz + 2) undef (chS f) (B2 ++ encE (onE (f.ticket = true) 35 (f.tickets)))) ?_ (ce_2 w2 K hA hT HB2.out HM2.out HY2.out (by omega))
  clear hA hT
  rintro e a' w3 ⟨rfl, hA, hB, hM, hF⟩
  simp only [Exit.then]
  obtain ⟨hdf, hs, h2, h3, h6, h7⟩ := hA
  obtain ⟨s', dl⟩ := a'
  simp only at hdf hs h2 h3 h6 h7
  subst hdf
  obtain ⟨z3, rfl⟩ := arr258 s' hs
  have e2 : z3 2 = .pointer (some ⟨sz, 0, none⟩) := Option.some.inj h2
  have e3 : z3 3 = .pointer (some ⟨sz + 1, 0, none⟩) := Option.some.inj h3
  have e6 : z3 6 = .pointer (some ⟨sz + 2, 0, none⟩) := Option.some.inj h6
  have e7 : z3 7 = undef := Option.some.inj h7
  rw [e2, e3, e6, e7]
  clear hs h2 h3 h6 h7 e2 e3 e6 e7
  obtain ⟨B3, hBn⟩ : ∃ B, B = B2 ++ encE (onE (f.ticket = true) 35 (f.tickets)) := ⟨_, rfl⟩
  rw [← hBn] at hB hlen
  have HE3b := Lib.hid hBn
  have HB3 := Lib.hid hB
  have HM3 := Lib.hid hM
  have HY3 := Lib.hid (hF.other HY2.out (by decide) (by omega))
  have FRC3 := Lib.hid (FRC2.out.trans hF)
  have hn3 : B3.length ≤ 3 * 64000 := by omega
  clear hBn hB hM hF hlen hn2
  go_upto_region 11 with fail
  refine Code.wp_mono (Q := CtPost sz (sz + 1) (sz + 2) undef 51 f.srs w3) ?_ (ct_3 w3 K ⟨rfl, rfl, rfl, rfl, rfl, rfl⟩ HM3.out HY3.out)
  rintro e a' w' ⟨rfl, rfl, hA, hT⟩
  simp only [Exit.then]
  go_upto_if 51 with fail
  have hlen := cl3 (f := f) (bs := B3) K
  refine Code.wp_mono (Q := CePost w3 (sz + 2) sz (sz + 1) m (sz + 2) undef (chS f) (B3 ++ encE (onE (f.srs = true) 65281 (en 1 f.sr.length ++ f.sr)))) ?_ (ce_3 w3 K hA hT HB3.out HM3.out HY3.out (by omega))
  clear hA hT
  rintro e a' w4 ⟨rfl, hA, hB, hM, hF⟩
  simp only [Exit.then]
  obtain ⟨hdf, hs, h2, h3, h6, h7⟩ := hA
  obtain ⟨s', dl⟩ := a'
  simp only at hdf hs h2 h3 h6 h7
  subst hdf
  obtain ⟨z4, rfl⟩ := arr258 s' hs
  have e2 : z4 2 = .pointer (some ⟨sz, 0, none⟩) := Option.some.inj h2
  have e3 : z4 3 = .pointer (some ⟨sz + 1, 0, none⟩) := Option.some.inj h3
  have e6 : z4 6 = .pointer (some ⟨sz + 2, 0, none⟩) := Option.some.inj h6
  have e7 : z4 7 = undef := Option.some.inj h7
  rw [e2, e3, e6, e7]
  clear hs h2 h3 h6 h7 e2 e3 e6 e7
  obtain ⟨B4, hBn⟩ : ∃ B, B = B3 ++ encE (onE (f.srs = true) 65281 (en 1 f.sr.length ++ f.sr)) := ⟨_, rfl⟩
  rw [← hBn] at hB hlen
  have HE4b := Lib.hid hBn
  have HB4 := Lib.hid hB
  have HM4 := Lib.hid hM
  have HY4 := Lib.hid (hF.other HY3.out (by decide) (by omega))
  have FRC4 := Lib.hid (FRC3.out.trans hF)
  have hn4 : B4.length ≤ 4 * 64000 := by omega
  clear hBn hB hM hF hlen hn3
  go_upto_region 14 with fail
  refine Code.wp_mono (Q := CtPost sz (sz + 1) (sz + 2) undef 62 f.ems w4) ?_ (ct_4 w4 K ⟨rfl, rfl, rfl, rfl, rfl, rfl⟩ HM4.out HY4.out)
  rintro e a' w' ⟨rfl, rfl, hA, hT⟩
  simp only [Exit.then]
  go_upto_if 62 with fail
  have hlen := cl4 (f := f) (bs := B4) K
  refine Code.wp_mono (Q := CePost w4 (sz + 2) sz (sz + 1) m (sz + 2) undef (chS f) (B4 ++ encE (onE (f.ems = true) 23 (([] : List UInt8))))) ?_ (ce_4 w4 K hA hT HB4.out HM4.out HY4.out (by omega))
  clear hA hT
  rintro e a' w5 ⟨rfl, hA, hB, hM, hF⟩
  simp only [Exit.then]
  obtain ⟨hdf, hs, h2, h3, h6, h7⟩ := hA
  obtain ⟨s', dl⟩ := a'
  simp only at hdf hs h2 h3 h6 h7
  subst hdf
  obtain ⟨z5, rfl⟩ := arr258 s' hs
  have e2 : z5 2 = .pointer (some ⟨sz, 0, none⟩) := Option.some.inj h2
  have e3 : z5 3 = .pointer (some ⟨sz + 1, 0, none⟩) := Option.some.inj h3
  have e6 : z5 6 = .pointer (some ⟨sz + 2, 0, none⟩) := Option.some.inj h6
  have e7 : z5 7 = undef := Option.some.inj h7
  rw [e2, e3, e6, e7]
  clear hs h2 h3 h6 h7 e2 e3 e6 e7
  obtain ⟨B5, hBn⟩ : ∃ B, B = B4 ++ encE (onE (f.ems = true) 23 (([] : List UInt8))) := ⟨_, rfl⟩
  rw [← hBn] at hB hlen
  have HE5b := Lib.hid hBn
  have HB5 := Lib.hid hB
  have HM5 := Lib.hid hM
  have HY5 := Lib.hid (hF.other HY4.out (by decide) (by omega))
  have FRC5 := Lib.hid (FRC4.out.trans hF)
  have hn5 : B5.length ≤ 5 * 64000 := by omega
  clear hBn hB hM hF hlen hn4
  go_upto_region 17 with fail
  refine Code.wp_mono (Q := CtPost sz (sz + 1) (sz + 2) undef 68 f.scts w5) ?_ (ct_5 w5 K ⟨rfl, rfl, rfl, rfl, rfl, rfl⟩ HM5.out HY5.out)
  rintro e a' w' ⟨rfl, rfl, hA, hT⟩
  simp only [Exit.then]
  go_upto_if 68 with fail
  have hlen := cl5 (f := f) (bs := B5) K
  refine Code.wp_mono (Q := CePost w5 (sz + 2) sz (sz + 1) m (sz + 2) undef (chS f) (B5 ++ encE (onE (f.scts = true) 18 (([] : List UInt8))))) ?_ (ce_5 w5 K hA hT HB5.out HM5.out HY5.out (by omega))
  clear hA hT
  rintro e a' w6 ⟨rfl, hA, hB, hM, hF⟩
  simp only [Exit.then]
  obtain ⟨hdf, hs, h2, h3, h6, h7⟩ := hA
  obtain ⟨s', dl⟩ := a'
  simp only at hdf hs h2 h3 h6 h7
  subst hdf
  obtain ⟨z6, rfl⟩ := arr258 s' hs
  have e2 : z6 2 = .pointer (some ⟨sz, 0, none⟩) := Option.some.inj h2
  have e3 : z6 3 = .pointer (some ⟨sz + 1, 0, none⟩) := Option.some.inj h3
  have e6 : z6 6 = .pointer (some ⟨sz + 2, 0, none⟩) := Option.some.inj h6
  have e7 : z6 7 = undef := Option.some.inj h7
  rw [e2, e3, e6, e7]
  clear hs h2 h3 h6 h7 e2 e3 e6 e7
  obtain ⟨B6, hBn⟩ : ∃ B, B = B5 ++ encE (onE (f.scts = true) 18 (([] : List UInt8))) := ⟨_, rfl⟩
  rw [← hBn] at hB hlen
  have HE6b := Lib.hid hBn
  have HB6 := Lib.hid hB
  have HM6 := Lib.hid hM
  have HY6 := Lib.hid (hF.other HY5.out (by decide) (by omega))
  have FRC6 := Lib.hid (FRC5.out.trans hF)
  have hn6 : B6.length ≤ 6 * 64000 := by omega
  clear hBn hB hM hF hlen hn5
  go_upto_region 20 with fail
  refine Code.wp_mono (Q := CtPost sz (sz + 1) (sz + 2) undef 74 f.early w6) ?_ (ct_6 w6 K ⟨rfl, rfl, rfl, rfl, rfl, rfl⟩ HM6.out HY6.out)
  rintro e a' w' ⟨rfl, rfl, hA, hT⟩
  simp only [Exit.then]
  go_upto_if 74 with fail
  have hlen := cl6 (f := f) (bs := B6) K
  refine Code.wp_mono (Q := CePost w6 (sz + 2) sz (sz + 1) m (sz + 2) undef (chS f) (B6 ++ encE (onE (f.early = true) 42 (([] : List UInt8))))) ?_ (ce_6 w6 K hA hT HB6.out HM6.out HY6.out (by omega))
  clear hA hT
  rintro e a' w7 ⟨rfl, hA, hB, hM, hF⟩
  simp only [Exit.then]
  obtain ⟨hdf, hs, h2, h3, h6, h7⟩ := hA
  obtain ⟨s', dl⟩ := a'
  simp only at hdf hs h2 h3 h6 h7
  subst hdf
  obtain ⟨z7, rfl⟩ := arr258 s' hs
  have e2 : z7 2 = .pointer (some ⟨sz, 0, none⟩) := Option.some.inj h2
  have e3 : z7 3 = .pointer (some ⟨sz + 1, 0, none⟩) := Option.some.inj h3
  have e6 : z7 6 = .pointer (some ⟨sz + 2, 0, none⟩) := Option.some.inj h6
  have e7 : z7 7 = undef := Option.some.inj h7
  rw [e2, e3, e6, e7]
  clear hs h2 h3 h6 h7 e2 e3 e6 e7
  obtain ⟨B7, hBn⟩ : ∃ B, B = B6 ++ encE (onE (f.early = true) 42 (([] : List UInt8))) := ⟨_, rfl⟩
  rw [← hBn] at hB hlen
  have HE7b := Lib.hid hBn
  have HB7 := Lib.hid hB
  have HM7 := Lib.hid hM
  have HY7 := Lib.hid (hF.other HY6.out (by decide) (by omega))
  have FRC7 := Lib.hid (FRC6.out.trans hF)
  have hn7 : B7.length ≤ 7 * 64000 := by omega
  clear hBn hB hM hF hlen hn6
  go_upto_region 23 with fail
  refine Code.wp_mono (Q := CtPost sz (sz + 1) (sz + 2) undef 81 f.quic.isSome w7) ?_ (ct_7 w7 K ⟨rfl, rfl, rfl, rfl, rfl, rfl⟩ HM7.out HY7.out)
  rintro e a' w' ⟨rfl, rfl, hA, hT⟩
  simp only [Exit.then]
  go_upto_if 81 with fail
  have hlen := cl7 (f := f) (bs := B7) K
  refine Code.wp_mono (Q := CePost w7 (sz + 2) sz (sz + 1) m (sz + 2) undef (chS f) (B7 ++ encE (onE (f.quic.isSome = true) 57 (f.quic.getD [])))) ?_ (ce_7 w7 K hA hT HB7.out HM7.out HY7.out (by omega))
  clear hA hT
  rintro e a' w8 ⟨rfl, hA, hB, hM, hF⟩
  simp only [Exit.then]
  obtain ⟨hdf, hs, h2, h3, h6, h7⟩ := hA
  obtain ⟨s', dl⟩ := a'
  simp only at hdf hs h2 h3 h6 h7
  subst hdf
  obtain ⟨z8, rfl⟩ := arr258 s' hs
  have e2 : z8 2 = .pointer (some ⟨sz, 0, none⟩) := Option.some.inj h2
  have e3 : z8 3 = .pointer (some ⟨sz + 1, 0, none⟩) := Option.some.inj h3
  have e6 : z8 6 = .pointer (some ⟨sz + 2, 0, none⟩) := Option.some.inj h6
  have e7 : z8 7 = undef := Option.some.inj h7
  rw [e2, e3, e6, e7]
  clear hs h2 h3 h6 h7 e2 e3 e6 e7
  obtain ⟨B8, hBn⟩ : ∃ B, B = B7 ++ encE (onE (f.quic.isSome = true) 57 (f.quic.getD [])) := ⟨_, rfl⟩
  rw [← hBn] at hB hlen
  have HE8b := Lib.hid hBn
  have HB8 := Lib.hid hB
  have HM8 := Lib.hid hM
  have HY8 := Lib.hid (hF.other HY7.out (by decide) (by omega))
  have FRC8 := Lib.hid (FRC7.out.trans hF)
  have hn8 : B8.length ≤ 8 * 64000 := by omega
  clear hBn hB hM hF hlen hn7
  go_upto_region 26 with fail
  refine Code.wp_mono (Q := CtPost sz (sz + 1) (sz + 2) undef 90 (decide (0 < f.ech.length)) w8) ?_ (ct_8 w8 K ⟨rfl, rfl, rfl, rfl, rfl, rfl⟩ HM8.out HY8.out)
  rintro e a' w' ⟨rfl, rfl, hA, hT⟩
  simp only [Exit.then]
  go_upto_if 90 with fail
  have hlen := cl8 (f := f) (bs := B8) K
  refine Code.wp_mono (Q := CePost w8 (sz + 2) sz (sz + 1) m (sz + 2) undef (chS f) (B8 ++ encE (onE (0 < f.ech.length) 65037 (f.ech)))) ?_ (ce_8 w8 K hA hT HB8.out HM8.out HY8.out (by omega))
  clear hA hT
  rintro e a' w9 ⟨rfl, hA, hB, hM, hF⟩
  simp only [Exit.then]
  obtain ⟨hdf, hs, h2, h3, h6, h7⟩ := hA
  obtain ⟨s', dl⟩ := a'
  simp only at hdf hs h2 h3 h6 h7
  subst hdf
  obtain ⟨z9, rfl⟩ := arr258 s' hs
  have e2 : z9 2 = .pointer (some ⟨sz, 0, none⟩) := Option.some.inj h2
  have e3 : z9 3 = .pointer (some ⟨sz + 1, 0, none⟩) := Option.some.inj h3
  have e6 : z9 6 = .pointer (some ⟨sz + 2, 0, none⟩) := Option.some.inj h6
  have e7 : z9 7 = undef := Option.some.inj h7
  rw [e2, e3, e6, e7]
  clear hs h2 h3 h6 h7 e2 e3 e6 e7
  obtain ⟨B9, hBn⟩ : ∃ B, B = B8 ++ encE (onE (0 < f.ech.length) 65037 (f.ech)) := ⟨_, rfl⟩
  rw [← hBn] at hB hlen
  have HE9b := Lib.hid hBn
  have HB9 := Lib.hid hB
  have HM9 := Lib.hid hM
  have HY9 := Lib.hid (hF.other HY8.out (by decide) (by omega))
  have FRC9 := Lib.hid (FRC8.out.trans hF)
  have hn9 : B9.length ≤ 9 * 64000 := by omega
  clear hBn hB hM hF hlen hn8
  go_upto_region 30 with fail
  obtain ⟨eB, heB⟩ : ∃ x, x = w9.heap.size := ⟨_, rfl⟩
  obtain ⟨V7, hV7⟩ : ∃ x, x = w9.alloc (.cells #[.slice none 0 0] 24) := ⟨_, rfl⟩
  rw [← heB, ← hV7]
  have hsb := HB9.out.size
  have HE7 : Hid (V7.heap[eB]? = some (.cells #[.slice none 0 0] 24 (0, 0))) := Lib.hid (by rw [hV7, heB]; exact heap_alloc_new _ _)
  have hec : eB ≠ sz + 2 := by
    obtain ⟨cs, fr, hh, _⟩ := HB9.out.isBld
    have := lt_of_heap hh
    omega
  have HB9b : Hid (BS V7 (sz + 2) (sz + 2) B9) := Lib.hid (by rw [hV7]; exact HB9.out.alloc _)
  have HM9b : Hid (MsgC V7 (sz + 2) sz m (chS f)) := Lib.hid (by rw [hV7]; exact HM9.out.alloc _)
  have HY9b : Hid (V7.heap[sz + 1]? = some (.cells #[.bool false] 4 (0, 0))) := Lib.hid (by rw [hV7]; exact heap_push HY9.out)
  have FRC9b : Hid (Fr (sz + 2) (sz + 2) W V7) := Lib.hid (by rw [hV7]; exact FRC9.out.alloc _)
  replace HB9 := HB9b
  replace HM9 := HM9b
  replace HY9 := HY9b
  replace FRC9 := FRC9b
  clear HB9b HM9b HY9b FRC9b heB hV7 hsb
  go_upto_region 30 with fail
  refine Code.wp_mono (Q := CtPost sz (sz + 1) (sz + 2) (.pointer (some ⟨eB, 0, none⟩)) 97 f.ocsp V7) ?_ (ct_9 V7 K ⟨rfl, rfl, rfl, rfl, rfl, rfl⟩ HM9.out HY9.out)
  rintro e a' w' ⟨rfl, rfl, hA, hT⟩
  simp only [Exit.then]
  go_upto_if 97 with fail
  have hlen := cl9 (f := f) (bs := B9) K
  refine Code.wp_mono (Q := CePost V7 (sz + 2) sz (sz + 1) m (sz + 2) (.pointer (some ⟨eB, 0, none⟩)) (chS f) (B9 ++ encE (onE (f.ocsp = true) 5 (en 1 1 ++ en 2 0 ++ en 2 0)))) ?_ (ce_9 V7 K hA hT HB9.out HM9.out HY9.out (by omega))
  clear hA hT
  rintro e a' w10 ⟨rfl, hA, hB, hM, hF⟩
  simp only [Exit.then]
  obtain ⟨hdf, hs, h2, h3, h6, h7⟩ := hA
  obtain ⟨s', dl⟩ := a'
  simp only at hdf hs h2 h3 h6 h7
  subst hdf
  obtain ⟨z10, rfl⟩ := arr258 s' hs
  have e2 : z10 2 = .pointer (some ⟨sz, 0, none⟩) := Option.some.inj h2
  have e3 : z10 3 = .pointer (some ⟨sz + 1, 0, none⟩) := Option.some.inj h3
  have e6 : z10 6 = .pointer (some ⟨sz + 2, 0, none⟩) := Option.some.inj h6
  have e7 : z10 7 = (.pointer (some ⟨eB, 0, none⟩)) := Option.some.inj h7
  rw [e2, e3, e6, e7]
  clear hs h2 h3 h6 h7 e2 e3 e6 e7
  obtain ⟨B10, hBn⟩ : ∃ B, B = B9 ++ encE (onE (f.ocsp = true) 5 (en 1 1 ++ en 2 0 ++ en 2 0)) := ⟨_, rfl⟩
  rw [← hBn] at hB hlen
  have HE10b := Lib.hid hBn
  have HB10 := Lib.hid hB
  have HM10 := Lib.hid hM
  have HY10 := Lib.hid (hF.other HY9.out (by decide) (by omega))
  replace HE7 := Lib.hid (hF.other HE7.out (by decide) hec)
  have FRC10 := Lib.hid (FRC9.out.trans hF)
  have hn10 : B10.length ≤ 10 * 64000 := by omega
  clear hBn hB hM hF hlen hn9
  go_upto_region 35 with fail
  refine Code.wp_mono (Q := CtPost sz (sz + 1) (sz + 2) (.pointer (some ⟨eB, 0, none⟩)) 109 (decide (0 < f.curves.length)) w10) ?_ (ct_10 w10 K ⟨rfl, rfl, rfl, rfl, rfl, rfl⟩ HM10.out HY10.out)
  rintro e a' w' ⟨rfl, rfl, hA, hT⟩
  simp only [Exit.then]
  go_upto_if 109 with fail
  have hlen := cl10 (f := f) (bs := B10) K
  refine Code.wp_mono (Q := CePost w10 (sz + 2) sz (sz + 1) m (sz + 2) (.pointer (some ⟨eB, 0, none⟩)) (chS f) (B10 ++ encE (onE (0 < f.curves.length) 10 (en 2 (wnums 2 f.curves).length ++ (wnums 2 f.curves))))) ?_ (ce_10 w10 K hA hT HB10.out HM10.out HY10.out (by omega))
  clear hA hT
  rintro e a' w11 ⟨rfl, hA, hB, hM, hF⟩
  simp only [Exit.then]
  obtain ⟨hdf, hs, h2, h3, h6, h7⟩ := hA
  obtain ⟨s', dl⟩ := a'
  simp only at hdf hs h2 h3 h6 h7
  subst hdf
  obtain ⟨z11, rfl⟩ := arr258 s' hs
  have e2 : z11 2 = .pointer (some ⟨sz, 0, none⟩) := Option.some.inj h2
  have e3 : z11 3 = .pointer (some ⟨sz + 1, 0, none⟩) := Option.some.inj h3
  have e6 : z11 6 = .pointer (some ⟨sz + 2, 0, none⟩) := Option.some.inj h6
  have e7 : z11 7 = (.pointer (some ⟨eB, 0, none⟩)) := Option.some.inj h7
  rw [e2, e3, e6, e7]
  clear hs h2 h3 h6 h7 e2 e3 e6 e7
  obtain ⟨B11, hBn⟩ : ∃ B, B = B10 ++ encE (onE (0 < f.curves.length) 10 (en 2 (wnums 2 f.curves).length ++ (wnums 2 f.curves))) := ⟨_, rfl⟩
  rw [← hBn] at hB hlen
  have HE11b := Lib.hid hBn
  have HB11 := Lib.hid hB
  have HM11 := Lib.hid hM
  have HY11 := Lib.hid (hF.other HY10.out (by decide) (by omega))
  replace HE7 := Lib.hid (hF.other HE7.out (by decide) hec)
  have FRC11 := Lib.hid (FRC10.out.trans hF)
  have hn11 : B11.length ≤ 11 * 64000 := by omega
  clear hBn hB hM hF hlen hn10
  go_upto_region 40 with fail
  refine Code.wp_mono (Q := CtPost sz (sz + 1) (sz + 2) (.pointer (some ⟨eB, 0, none⟩)) 122 (decide (0 < f.sigs.length)) w11) ?_ (ct_11 w11 K ⟨rfl, rfl, rfl, rfl, rfl, rfl⟩ HM11.out HY11.out)
  rintro e a' w' ⟨rfl, rfl, hA, hT⟩
  simp only [Exit.then]
  go_upto_if 122 with fail
  have hlen := cl11 (f := f) (bs := B11) K
  refine Code.wp_mono (Q := CePost w11 (sz + 2) sz (sz + 1) m (sz + 2) (.pointer (some ⟨eB, 0, none⟩)) (chS f) (B11 ++ encE (onE (0 < f.sigs.length) 13 (en 2 (wnums 2 f.sigs).length ++ (wnums 2 f.sigs))))) ?_ (ce_11 w11 K hA hT HB11.out HM11.out HY11.out (by omega))
  clear hA hT
  rintro e a' w12 ⟨rfl, hA, hB, hM, hF⟩
  simp only [Exit.then]
  obtain ⟨hdf, hs, h2, h3, h6, h7⟩ := hA
  obtain ⟨s', dl⟩ := a'
  simp only at hdf hs h2 h3 h6 h7
  subst hdf
  obtain ⟨z12, rfl⟩ := arr258 s' hs
  have e2 : z12 2 = .pointer (some ⟨sz, 0, none⟩) := Option.some.inj h2
  have e3 : z12 3 = .pointer (some ⟨sz + 1, 0, none⟩) := Option.some.inj h3
  have e6 : z12 6 = .pointer (some ⟨sz + 2, 0, none⟩) := Option.some.inj h6
  have e7 : z12 7 = (.pointer (some ⟨eB, 0, none⟩)) := Option.some.inj h7
  rw [e2, e3, e6, e7]
  clear hs h2 h3 h6 h7 e2 e3 e6 e7
  obtain ⟨B12, hBn⟩ : ∃ B, B = B11 ++ encE (onE (0 < f.sigs.length) 13 (en 2 (wnums 2 f.sigs).length ++ (wnums 2 f.sigs))) := ⟨_, rfl⟩
  rw [← hBn] at hB hlen
  have HE12b := Lib.hid hBn
  have HB12 := Lib.hid hB
  have HM12 := Lib.hid hM
  have HY12 := Lib.hid (hF.other HY11.out (by decide) (by omega))
  replace HE7 := Lib.hid (hF.other HE7.out (by decide) hec)
  have FRC12 := Lib.hid (FRC11.out.trans hF)
  have hn12 : B12.length ≤ 12 * 64000 := by omega
  clear hBn hB hM hF hlen hn11
  go_upto_region 45 with fail
  refine Code.wp_mono (Q := CtPost sz (sz + 1) (sz + 2) (.pointer (some ⟨eB, 0, none⟩)) 135 (decide (0 < f.sigsC.length)) w12) ?_ (ct_12 w12 K ⟨rfl, rfl, rfl, rfl, rfl, rfl⟩ HM12.out HY12.out)
  rintro e a' w' ⟨rfl, rfl, hA, hT⟩
  simp only [Exit.then]
  go_upto_if 135 with fail
  have hlen := cl12 (f := f) (bs := B12) K
  refine Code.wp_mono (Q := CePost w12 (sz + 2) sz (sz + 1) m (sz + 2) (.pointer (some ⟨eB, 0, none⟩)) (chS f) (B12 ++ encE (onE (0 < f.sigsC.length) 50 (en 2 (wnums 2 f.sigsC).length ++ (wnums 2 f.sigsC))))) ?_ (ce_12 w12 K hA hT HB12.out HM12.out HY12.out (by omega))
  clear hA hT
  rintro e a' w13 ⟨rfl, hA, hB, hM, hF⟩
  simp only [Exit.then]
  obtain ⟨hdf, hs, h2, h3, h6, h7⟩ := hA
  obtain ⟨s', dl⟩ := a'
  simp only at hdf hs h2 h3 h6 h7
  subst hdf
  obtain ⟨z13, rfl⟩ := arr258 s' hs
  have e2 : z13 2 = .pointer (some ⟨sz, 0, none⟩) := Option.some.inj h2
  have e3 : z13 3 = .pointer (some ⟨sz + 1, 0, none⟩) := Option.some.inj h3
  have e6 : z13 6 = .pointer (some ⟨sz + 2, 0, none⟩) := Option.some.inj h6
  have e7 : z13 7 = (.pointer (some ⟨eB, 0, none⟩)) := Option.some.inj h7
  rw [e2, e3, e6, e7]
  clear hs h2 h3 h6 h7 e2 e3 e6 e7
  obtain ⟨B13, hBn⟩ : ∃ B, B = B12 ++ encE (onE (0 < f.sigsC.length) 50 (en 2 (wnums 2 f.sigsC).length ++ (wnums 2 f.sigsC))) := ⟨_, rfl⟩
  rw [← hBn] at hB hlen
  have HE13b := Lib.hid hBn
  have HB13 := Lib.hid hB
  have HM13 := Lib.hid hM
  have HY13 := Lib.hid (hF.other HY12.out (by decide) (by omega))
  replace HE7 := Lib.hid (hF.other HE7.out (by decide) hec)
  have FRC13 := Lib.hid (FRC12.out.trans hF)
  have hn13 : B13.length ≤ 13 * 64000 := by omega
  clear hBn hB hM hF hlen hn12
  go_upto_region 50 with fail
  refine Code.wp_mono (Q := CtPost sz (sz + 1) (sz + 2) (.pointer (some ⟨eB, 0, none⟩)) 148 (decide (0 < f.alpn.length)) w13) ?_ (ct_13 w13 K ⟨rfl, rfl, rfl, rfl, rfl, rfl⟩ HM13.out HY13.out)
  rintro e a' w' ⟨rfl, rfl, hA, hT⟩
  simp only [Exit.then]
  go_upto_if 148 with fail
  have hlen := cl13 (f := f) (bs := B13) K
  refine Code.wp_mono (Q := CePost w13 (sz + 2) sz (sz + 1) m (sz + 2) (.pointer (some ⟨eB, 0, none⟩)) (chS f) (B13 ++ encE (onE (0 < f.alpn.length) 16 (en 2 (vecs 1 f.alpn).length ++ (vecs 1 f.alpn))))) ?_ (ce_13 w13 K hA hT HB13.out HM13.out HY13.out (by omega))
  clear hA hT
  rintro e a' w14 ⟨rfl, hA, hB, hM, hF⟩
  simp only [Exit.then]
  obtain ⟨hdf, hs, h2, h3, h6, h7⟩ := hA
  obtain ⟨s', dl⟩ := a'
  simp only at hdf hs h2 h3 h6 h7
  subst hdf
  obtain ⟨z14, rfl⟩ := arr258 s' hs
  have e2 : z14 2 = .pointer (some ⟨sz, 0, none⟩) := Option.some.inj h2
  have e3 : z14 3 = .pointer (some ⟨sz + 1, 0, none⟩) := Option.some.inj h3
  have e6 : z14 6 = .pointer (some ⟨sz + 2, 0, none⟩) := Option.some.inj h6
  have e7 : z14 7 = (.pointer (some ⟨eB, 0, none⟩)) := Option.some.inj h7
  rw [e2, e3, e6, e7]
  clear hs h2 h3 h6 h7 e2 e3 e6 e7
  obtain ⟨B14, hBn⟩ : ∃ B, B = B13 ++ encE (onE (0 < f.alpn.length) 16 (en 2 (vecs 1 f.alpn).length ++ (vecs 1 f.alpn))) := ⟨_, rfl⟩
  rw [← hBn] at hB hlen
  have HE14b := Lib.hid hBn
  have HB14 := Lib.hid hB
  have HM14 := Lib.hid hM
  have HY14 := Lib.hid (hF.other HY13.out (by decide) (by omega))
  replace HE7 := Lib.hid (hF.other HE7.out (by decide) hec)
  have FRC14 := Lib.hid (FRC13.out.trans hF)
  have hn14 : B14.length ≤ 14 * 64000 := by omega
  clear hBn hB hM hF hlen hn13
  go_upto_region 55 with fail
  refine Code.wp_mono (Q := CtPost sz (sz + 1) (sz + 2) (.pointer (some ⟨eB, 0, none⟩)) 161 (decide (0 < f.vers13.length)) w14) ?_ (ct_14 w14 K ⟨rfl, rfl, rfl, rfl, rfl, rfl⟩ HM14.out HY14.out)
  rintro e a' w' ⟨rfl, rfl, hA, hT⟩
  simp only [Exit.then]
  go_upto_if 161 with fail
  have hlen := cl14 (f := f) (bs := B14) K
  refine Code.wp_mono (Q := CePost w14 (sz + 2) sz (sz + 1) m (sz + 2) (.pointer (some ⟨eB, 0, none⟩)) (chS f) (B14 ++ encE (onE (0 < f.vers13.length) 43 (en 1 (wnums 2 f.vers13).length ++ (wnums 2 f.vers13))))) ?_ (ce_14 w14 K hA hT HB14.out HM14.out HY14.out (by omega))
  clear hA hT
  rintro e a' w15 ⟨rfl, hA, hB, hM, hF⟩
  simp only [Exit.then]
  obtain ⟨hdf, hs, h2, h3, h6, h7⟩ := hA
  obtain ⟨s', dl⟩ := a'
  simp only at hdf hs h2 h3 h6 h7
  subst hdf
  obtain ⟨z15, rfl⟩ := arr258 s' hs
  have e2 : z15 2 = .pointer (some ⟨sz, 0, none⟩) := Option.some.inj h2
  have e3 : z15 3 = .pointer (some ⟨sz + 1, 0, none⟩) := Option.some.inj h3
  have e6 : z15 6 = .pointer (some ⟨sz + 2, 0, none⟩) := Option.some.inj h6
  have e7 : z15 7 = (.pointer (some ⟨eB, 0, none⟩)) := Option.some.inj h7
  rw [e2, e3, e6, e7]
  clear hs h2 h3 h6 h7 e2 e3 e6 e7
  obtain ⟨B15, hBn⟩ : ∃ B, B = B14 ++ encE (onE (0 < f.vers13.length) 43 (en 1 (wnums 2 f.vers13).length ++ (wnums 2 f.vers13))) := ⟨_, rfl⟩
  rw [← hBn] at hB hlen
  have HE15b := Lib.hid hBn
  have HB15 := Lib.hid hB
  have HM15 := Lib.hid hM
  have HY15 := Lib.hid (hF.other HY14.out (by decide) (by omega))
  replace HE7 := Lib.hid (hF.other HE7.out (by decide) hec)
  have FRC15 := Lib.hid (FRC14.out.trans hF)
  have hn15 : B15.length ≤ 15 * 64000 := by omega
  clear hBn hB hM hF hlen hn14
  go_upto_region 60 with fail
  refine Code.wp_mono (Q := CtPost sz (sz + 1) (sz + 2) (.pointer (some ⟨eB, 0, none⟩)) 174 (decide (0 < f.cookie.length)) w15) ?_ (ct_15 w15 K ⟨rfl, rfl, rfl, rfl, rfl, rfl⟩ HM15.out HY15.out)
  rintro e a' w' ⟨rfl, rfl, hA, hT⟩
  simp only [Exit.then]
  go_upto_if 174 with fail
  have hlen := cl15 (f := f) (bs := B15) K
  refine Code.wp_mono (Q := CePost w15 (sz + 2) sz (sz + 1) m (sz + 2) (.pointer (some ⟨eB, 0, none⟩)) (chS f) (B15 ++ encE (onE (0 < f.cookie.length) 44 (en 2 f.cookie.length ++ f.cookie)))) ?_ (ce_15 w15 K hA hT HB15.out HM15.out HY15.out (by omega))
  clear hA hT
  rintro e a' w16 ⟨rfl, hA, hB, hM, hF⟩
  simp only [Exit.then]
  obtain ⟨hdf, hs, h2, h3, h6, h7⟩ := hA
  obtain ⟨s', dl⟩ := a'
  simp only at hdf hs h2 h3 h6 h7
  subst hdf
  obtain ⟨z16, rfl⟩ := arr258 s' hs
  have e2 : z16 2 = .pointer (some ⟨sz, 0, none⟩) := Option.some.inj h2
  have e3 : z16 3 = .pointer (some ⟨sz + 1, 0, none⟩) := Option.some.inj h3
  have e6 : z16 6 = .pointer (some ⟨sz + 2, 0, none⟩) := Option.some.inj h6
  have e7 : z16 7 = (.pointer (some ⟨eB, 0, none⟩)) := Option.some.inj h7
  rw [e2, e3, e6, e7]
  clear hs h2 h3 h6 h7 e2 e3 e6 e7
  obtain ⟨B16, hBn⟩ : ∃ B, B = B15 ++ encE (onE (0 < f.cookie.length) 44 (en 2 f.cookie.length ++ f.cookie)) := ⟨_, rfl⟩
  rw [← hBn] at hB hlen
  have HE16b := Lib.hid hBn
  have HB16 := Lib.hid hB
  have HM16 := Lib.hid hM
  have HY16 := Lib.hid (hF.other HY15.out (by decide) (by omega))
  replace HE7 := Lib.hid (hF.other HE7.out (by decide) hec)
  have FRC16 := Lib.hid (FRC15.out.trans hF)
  have hn16 : B16.length ≤ 16 * 64000 := by omega
  clear hBn hB hM hF hlen hn15
  go_upto_region 65 with fail
  refine Code.wp_mono (Q := CtPost sz (sz + 1) (sz + 2) (.pointer (some ⟨eB, 0, none⟩)) 187 (decide (0 < f.shares.length)) w16) ?_ (ct_16 w16 K ⟨rfl, rfl, rfl, rfl, rfl, rfl⟩ HM16.out HY16.out)
  rintro e a' w' ⟨rfl, rfl, hA, hT⟩
  simp only [Exit.then]
  go_upto_if 187 with fail
  have hlen := cl16 (f := f) (bs := B16) K
  refine Code.wp_mono (Q := CePost w16 (sz + 2) sz (sz + 1) m (sz + 2) (.pointer (some ⟨eB, 0, none⟩)) (chS f) (B16 ++ encE (onE (0 < f.shares.length) 51 (en 2 (wshr f.shares).length ++ (wshr f.shares))))) ?_ (ce_16 w16 K hA hT HB16.out HM16.out HY16.out (by omega))
  clear hA hT
  rintro e a' w17 ⟨rfl, hA, hB, hM, hF⟩
  simp only [Exit.then]
  obtain ⟨hdf, hs, h2, h3, h6, h7⟩ := hA
  obtain ⟨s', dl⟩ := a'
  simp only at hdf hs h2 h3 h6 h7
  subst hdf
  obtain ⟨z17, rfl⟩ := arr258 s' hs
  have e2 : z17 2 = .pointer (some ⟨sz, 0, none⟩) := Option.some.inj h2
  have e3 : z17 3 = .pointer (some ⟨sz + 1, 0, none⟩) := Option.some.inj h3
  have e6 : z17 6 = .pointer (some ⟨sz + 2, 0, none⟩) := Option.some.inj h6
  have e7 : z17 7 = (.pointer (some ⟨eB, 0, none⟩)) := Option.some.inj h7
  rw [e2, e3, e6, e7]
  clear hs h2 h3 h6 h7 e2 e3 e6 e7
  obtain ⟨B17, hBn⟩ : ∃ B, B = B16 ++ encE (onE (0 < f.shares.length) 51 (en 2 (wshr f.shares).length ++ (wshr f.shares))) := ⟨_, rfl⟩
  rw [← hBn] at hB hlen
  have HE17b := Lib.hid hBn
  have HB17 := Lib.hid hB
  have HM17 := Lib.hid hM
  have HY17 := Lib.hid (hF.other HY16.out (by decide) (by omega))
  replace HE7 := Lib.hid (hF.other HE7.out (by decide) hec)
  have FRC17 := Lib.hid (FRC16.out.trans hF)
  have hn17 : B17.length ≤ 17 * 64000 := by omega
  clear hBn hB hM hF hlen hn16
  go_upto_region 70 with fail
  refine Code.wp_mono (Q := CtPost sz (sz + 1) (sz + 2) (.pointer (some ⟨eB, 0, none⟩)) 200 (decide (0 < f.modes.length)) w17) ?_ (ct_17 w17 K ⟨rfl, rfl, rfl, rfl, rfl, rfl⟩ HM17.out HY17.out)
  rintro e a' w' ⟨rfl, rfl, hA, hT⟩
  simp only [Exit.then]
  go_upto_if 200 with fail
  have hlen := cl17 (f := f) (bs := B17) K
  refine Code.wp_mono (Q := CePost w17 (sz + 2) sz (sz + 1) m (sz + 2) (.pointer (some ⟨eB, 0, none⟩)) (chS f) (B17 ++ encE (onE (0 < f.modes.length) 45 (en 1 f.modes.length ++ f.modes)))) ?_ (ce_17 w17 K hA hT HB17.out HM17.out HY17.out (by omega))
  clear hA hT
  rintro e a' w18 ⟨rfl, hA, hB, hM, hF⟩
  simp only [Exit.then]
  obtain ⟨hdf, hs, h2, h3, h6, h7⟩ := hA
  obtain ⟨s', dl⟩ := a'
  simp only at hdf hs h2 h3 h6 h7
  subst hdf
  obtain ⟨z18, rfl⟩ := arr258 s' hs
  have e2 : z18 2 = .pointer (some ⟨sz, 0, none⟩) := Option.some.inj h2
  have e3 : z18 3 = .pointer (some ⟨sz + 1, 0, none⟩) := Option.some.inj h3
  have e6 : z18 6 = .pointer (some ⟨sz + 2, 0, none⟩) := Option.some.inj h6
  have e7 : z18 7 = (.pointer (some ⟨eB, 0, none⟩)) := Option.some.inj h7
  rw [e2, e3, e6, e7]
  clear hs h2 h3 h6 h7 e2 e3 e6 e7
  obtain ⟨B18, hBn⟩ : ∃ B, B = B17 ++ encE (onE (0 < f.modes.length) 45 (en 1 f.modes.length ++ f.modes)) := ⟨_, rfl⟩
  rw [← hBn] at hB hlen
  have HE18b := Lib.hid hBn
  have HB18 := Lib.hid hB
  have HM18 := Lib.hid hM
  have HY18 := Lib.hid (hF.other HY17.out (by decide) (by omega))
  replace HE7 := Lib.hid (hF.other HE7.out (by decide) hec)
  have FRC18 := Lib.hid (FRC17.out.trans hF)
  have hn18 : B18.length ≤ 18 * 64000 := by omega
  clear hBn hB hM hF hlen hn17
  go_upto_region 75 with fail
  refine Code.wp_mono (Q := CtPost sz (sz + 1) (sz + 2) (.pointer (some ⟨eB, 0, none⟩)) 213 false w18) ?_ (ct_x w18 ⟨rfl, rfl, rfl, rfl, rfl, rfl⟩ HE7.out HY18.out)
  rintro e a' w' ⟨rfl, rfl, hA, hT⟩
  simp only [Exit.then]
  go_upto_if 213 with fail
  refine Code.wp_mono (Q := CnPost sz (sz + 1) (sz + 2) (.pointer (some ⟨eB, 0, none⟩)) w18) ?_ (ce_x w18 hA hT)
  clear hA hT
  rintro e a' w' ⟨rfl, rfl, hA⟩
  simp only [Exit.then]
  obtain ⟨hdf, hs, h2, h3, h6, h7⟩ := hA
  obtain ⟨s', dl⟩ := a'
  simp only at hdf hs h2 h3 h6 h7
  subst hdf
  obtain ⟨z100, rfl⟩ := arr258 s' hs
  have e2 : z100 2 = .pointer (some ⟨sz, 0, none⟩) := Option.some.inj h2
  have e3 : z100 3 = .pointer (some ⟨sz + 1, 0, none⟩) := Option.some.inj h3
  have e6 : z100 6 = .pointer (some ⟨sz + 2, 0, none⟩) := Option.some.inj h6
  have e7 : z100 7 = (.pointer (some ⟨eB, 0, none⟩)) := Option.some.inj h7
  rw [e2, e3, e6, e7]
  clear hs h2 h3 h6 h7 e2 e3 e6 e7
  go_upto_region 78 with fail
  refine Code.wp_mono (Q := CtPost sz (sz + 1) (sz + 2) (.pointer (some ⟨eB, 0, none⟩)) 241 (decide (0 < f.psks.length)) w18) ?_ (ct_18 w18 K ⟨rfl, rfl, rfl, rfl, rfl, rfl⟩ HM18.out HY18.out)
  rintro e a' w' ⟨rfl, rfl, hA, hT⟩
  simp only [Exit.then]
  go_upto_if 241 with fail
  have hlen := cl18 (f := f) (bs := B18) K
  refine Code.wp_mono (Q := CePost w18 (sz + 2) sz (sz + 1) m (sz + 2) (.pointer (some ⟨eB, 0, none⟩)) (chS f) (B18 ++ encE (onE (0 < f.psks.length) 41 (en 2 (widn f.psks).length ++ (widn f.psks) ++ (en 2 (vecs 1 f.binders).length ++ (vecs 1 f.binders)))))) ?_ (ce_18 w18 K hA hT HB18.out HM18.out HY18.out (by omega))
  clear hA hT
  rintro e a' w19 ⟨rfl, hA, hB, hM, hF⟩
  simp only [Exit.then]
  obtain ⟨hdf, hs, h2, h3, h6, h7⟩ := hA
  obtain ⟨s', dl⟩ := a'
  simp only at hdf hs h2 h3 h6 h7
  subst hdf
  obtain ⟨z19, rfl⟩ := arr258 s' hs
  have e2 : z19 2 = .pointer (some ⟨sz, 0, none⟩) := Option.some.inj h2
  have e3 : z19 3 = .pointer (some ⟨sz + 1, 0, none⟩) := Option.some.inj h3
  have e6 : z19 6 = .pointer (some ⟨sz + 2, 0, none⟩) := Option.some.inj h6
  have e7 : z19 7 = (.pointer (some ⟨eB, 0, none⟩)) := Option.some.inj h7
  rw [e2, e3, e6, e7]
  clear hs h2 h3 h6 h7 e2 e3 e6 e7
  obtain ⟨B19, hBn⟩ : ∃ B, B = B18 ++ encE (onE (0 < f.psks.length) 41 (en 2 (widn f.psks).length ++ (widn f.psks) ++ (en 2 (vecs 1 f.binders).length ++ (vecs 1 f.binders)))) := ⟨_, rfl⟩
  rw [← hBn] at hB hlen
  have HE19b := Lib.hid hBn
  have HB19 := Lib.hid hB
  have HM19 := Lib.hid hM
  have HY19 := Lib.hid (hF.other HY18.out (by decide) (by omega))
  replace HE7 := Lib.hid (hF.other HE7.out (by decide) hec)
  have FRC19 := Lib.hid (FRC18.out.trans hF)
  have hn19 : B19.length ≤ 19 * 64000 := by omega
  clear hBn hB hM hF hlen hn18
  have hEX : B19 = encE (chX f) := by
    rw [HE19b.out, HE18b.out, HE17b.out, HE16b.out, HE15b.out, HE14b.out, HE13b.out, HE12b.out, HE11b.out, HE10b.out, HE9b.out, HE8b.out, HE7b.out, HE6b.out, HE5b.out, HE4b.out, HE3b.out, HE2b.out, HE1b.out, HE0.out]
    simp only [chX, encE_append, List.nil_append, List.append_assoc]
  rw [hEX] at HB19
  have hX : (encE (chX f)).length < 65536 := by rw [chCost_len]; have := K.c; omega
  clear hEX hn19
  go_wp2_with fail
  refine (bs_bytes w19 HB19.out).mono ?_
  rintro e w20 ⟨v, rfl, hown, rfl⟩
  obtain ⟨ao, co, rfl⟩ := row_slice hown
  obtain ⟨X, hXX⟩ : ∃ X, X = encE (chX f) := ⟨_, rfl⟩
  rw [← hXX] at hown hX ⊢
  have HXX := Lib.hid hXX
  obtain ⟨yB, hyB⟩ : ∃ y, y = w19.heap.size := ⟨_, rfl⟩
  obtain ⟨V, hV⟩ : ∃ V, V = ((w19.alloc (.cells #[.slice ao X.length co] 22)).alloc (.cells #[.nilIface, .slice none 0 0, .bool false, .pointer none, .int .i64 0, .int .i64 0, .bool false, .pointer none] 96)).drew := ⟨_, rfl⟩
  have hVs : V.heap.size = yB + 2 := by rw [hV, hyB]; show ((w19.alloc _).alloc _).heap.size = _; simp
  have hVk : ∀ k, k < w19.heap.size → V.heap[k]? = w19.heap[k]? := fun k hk => by
    rw [hV]
    show ((w19.alloc _).alloc _).heap[k]? = _
    exact (Below.heap_alloc _ _ _ (by simp; omega)).trans (Below.heap_alloc _ _ _ hk)
  have hVy : V.heap[yB]? = some (.cells #[.slice ao X.length co] 22 (0, 0)) := by
    rw [hV, hyB]
    show ((w19.alloc _).alloc _).heap[_]? = _
    exact heap_push (heap_alloc_new _ _)
  have hszb : sz + 2 ≤ w19.heap.size := HB19.out.size
  have HMV : Hid (MsgC V (yB + 1) sz m (chS f)) := Lib.hid (HM19.out.keep (by omega) fun k hk => hVk k (by omega))
  have HVV : Hid (SrcB V (yB + 1) (.slice ao X.length co) X) := Lib.hid ((src_own hown (Nat.le_refl _)).keep (by show w19.heap.size ≤ _; omega) hVk)
  have HBV : Hid (BS V (yB + 1) (yB + 1) []) := Lib.hid (by
    have h := BS.new (w19.alloc (.cells #[.slice ao X.length co] 22)) (base := yB + 1) (by simp; omega)
    rw [World.size_alloc, ← hyB] at h
    obtain ⟨ic, hb, hq⟩ := h
    rw [hV]
    exact ⟨ic, hb, hq⟩)
  have HFV : Hid (Below w.heap.size w V) := Lib.hid (by
    rw [hV]
    have e := HSZ.out
    have e3 := HWS.out
    have h := FR0.out.trans ((FRC19.out.below (by omega) (Nat.le_refl _)).mono (by omega))
    rw [e] at h
    exact ((h.alloc (by omega) _).alloc (by simp; omega) _).drew)
  have HYV : Hid (V.heap[sz + 1]? = some (.cells #[.bool false] 4 (0, 0))) := Lib.hid ((hVk _ (by omega)).trans HY19.out)
  have HVY := Lib.hid hVy
  have HV := Lib.hid hV
  have HYB := Lib.hid hyB
  clear hown hXX hV hVk hVy
  go_wp2_with fail
  rw [← HYB.out, ← HV.out]
  clear hyB
  refine (bs_add8 (base := yB + 1) 1 V (by omega) (by omega) HBV.out (by simp)).mono ?_
  rintro e w21 ⟨rfl, hb, hfr⟩
  have HB21 : Hid (BS w21 (yB + 1) (yB + 1) (en 1 1)) := Lib.hid (by simpa using hb)
  have HM21 := Lib.hid (HMV.out.fr hfr (.inr HBV.out.isBld))
  have HV21 := Lib.hid (HVV.out.fr hfr (Nat.le_refl _) (by omega))
  have HZ21 := Lib.hid (hfr.other HVY.out (by decide) (by omega))
  have HY21 := Lib.hid (hfr.other HYV.out (by decide) (by have := HYB.out; omega))
  have HF21 := Lib.hid hfr
  have hs21 := hfr.size
  clear hb hfr
  obtain ⟨Y, hY⟩ : ∃ Y, Y = chBodyB f := ⟨_, rfl⟩
  have hYe : Y = en 2 f.vers ++ f.random ++ (en 1 f.session.length ++ f.session) ++ (en 2 (wnums 2 f.suites).length ++ wnums 2 f.suites) ++ (en 1 f.comps.length ++ f.comps) ++ (if X = [] then [] else en 2 X.length ++ X) := by rw [hY, HXX.out]; rfl
  have hYl : Y.length < 16777216 := by
    have h1 := K.r.random
    have h2 := K.r.session
    have h3 := K.r.suitesn
    have h4 := K.r.comps
    have hxo : (if X = [] then [] else en 2 X.length ++ X).length ≤ 2 + X.length := by
      by_cases h : X = []
      · rw [if_pos h]; simp
      · rw [if_neg h]; simp [en_length]
    rw [hYe]
    simp only [List.length_append, en_length, wnums_len]
    omega
  have HYE := Lib.hid hYe
  have HYY := Lib.hid hY
  clear hYe hY
  go_wp2_with fail
  refine (bs_lp3 (out := Y) w21 hYl HB21.out (by simp [en_length]; omega) (enter_of Tryz.func92 (by kernel_rfl) (by kernel_rfl)) (fun q hq hqf => by
    have n3 : yB ≠ q := by omega
    rw [HYE.out]
    exact ec_18 w21 K hX HM21.out HY21.out (by have := HYB.out; omega) HZ21.out n3 HV21.out hq (by omega))).mono ?_
  rintro e w22 ⟨rfl, hb, hfr⟩
  have HB22 : Hid (BS w22 (yB + 1) (yB + 1) (wCH f)) := Lib.hid (by
    unfold wCH
    rw [← HYY.out]
    exact hb)
  have HF22 := Lib.hid (HF21.out.trans hfr)
  clear hb hfr
  go_wp2_with fail
  refine (bs_bytes w22 HB22.out).mono ?_
  rintro e w23 ⟨v2, rfl, hown, rfl⟩
  have HOW := Lib.hid hown
  clear hown
  go_wp2_with fail
  go_ret2
  have e := HSZ.out
  have e2 := HYB.out
  refine ⟨v2, rfl, ownsRow_mono HOW.out (by omega), ?_⟩
  exact (HFV.out.trans ((HF22.out.below (by omega) (Nat.le_refl _)).mono (by omega))).drew

set_option maxRecDepth 100000 in
set_option maxHeartbeats 1000000 in
theorem ch_marshal {m : Nat} {f : CH} (w : World) (K : ChK f) (hm : ChIn w w.heap.size m f) :
    Calls Tryz.prog 23 #[.pointer (some ⟨m, 0, none⟩)] w fun e w' => ∃ v, e = .returned (.tuple #[v, .nilIface]) ∧ w'.ownsRow w.heap.size 5 1 v (wCH f).length ((wCH f).map by8) ∧ Below w.heap.size w w' := by
  have HM := Lib.hid hm
  clear hm
  go_enter Tryz.func23, Tryz.ntmps23
  go_wp2_with fail
  refine (ch_marshalMsg w K HM.out).mono ?_
  rintro e w1 ⟨v, rfl, hown, hbel⟩
  have HO := Lib.hid hown
  have HB := Lib.hid hbel
  clear hown hbel
  go_wp2_with fail
  go_ret2
  exact ⟨v, rfl, HO.out, HB.out⟩

end Go.Proofs.YtopcljikkdlffaaGreat
