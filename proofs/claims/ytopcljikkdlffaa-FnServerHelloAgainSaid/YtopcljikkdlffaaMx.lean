/- serverHelloMsg.marshal of package tls. No statement of the seat is proved here. -/
import Derived.Test.YtopcljikkdlffaaMb
namespace Go.Proofs.Ytopcljikkdlffaa
open Go.RowKit

/-- The extensions of a ServerHello, in the order in which they are made. -/
def shX (f : SH) : List (Nat × List UInt8) := one (f.ocsp = true) 5 (([] : List UInt8)) ++ one (f.ticket = true) 35 (([] : List UInt8)) ++ one (f.srs = true) 65281 (en 1 f.sr.length ++ f.sr) ++ one (f.ems = true) 23 (([] : List UInt8)) ++ one (0 < f.alpn.length) 16 (en 2 (en 1 f.alpn.length ++ f.alpn).length ++ (en 1 f.alpn.length ++ f.alpn)) ++ one (0 < f.scts.length) 18 (en 2 (vecs 2 f.scts).length ++ vecs 2 f.scts) ++ one (f.sver ≠ 0) 43 (en 2 f.sver) ++ one (f.sgroup ≠ 0) 51 (en 2 f.sgroup ++ en 2 f.sdata.length ++ f.sdata) ++ one (f.sip = true) 41 (en 2 f.sid) ++ one (0 < f.cookie.length) 44 (en 2 f.cookie.length ++ f.cookie) ++ one (f.selg ≠ 0) 51 (en 2 f.selg) ++ one (0 < f.pts.length) 11 (en 1 f.pts.length ++ f.pts) ++ one (0 < f.ech.length) 65037 (f.ech) ++ one (f.sna = true) 0 (([] : List UInt8))

/-- The body of a ServerHello that is made. -/
def shBodyB (f : SH) : List UInt8 := en 2 f.vers ++ f.random ++ (en 1 f.session.length ++ f.session) ++ en 2 f.cipher ++ en 1 f.comp ++ (if encX (shX f) = [] then [] else en 2 (encX (shX f)).length ++ encX (shX f))

/-- A ServerHello that is made. -/
def wSH (f : SH) : List UInt8 := en 1 2 ++ en 3 (shBodyB f).length ++ shBodyB f

/-- A serverHelloMsg in block m. -/
def ShIn (w : World) (base m : Nat) (f : SH) : Prop := ∃ D : Array Value, w.heap[m]? = some (.cells D 131 (0, 0)) ∧ ∀ (i : Nat) (sd : SD), (shS f)[i]? = some sd → ∃ v, D[i]? = some v ∧ SRel w base sd v

theorem SRel.keep {w w' : World} {base base' : Nat} {sd : SD} {v : Value} (h : SRel w base sd v) (hb : base ≤ base') (hk : ∀ k, k < base → w'.heap[k]? = w.heap[k]?) : SRel w' base' sd v := by
  cases sd with
  | any => exact h
  | val u => exact h
  | src l => exact SrcB.keep h hb hk
  | lst L =>
    rcases h with h | ⟨p, cap, cur, e, hlt, hh, hc⟩
    · exact .inl h
    · refine .inr ⟨p, cap, cur, e, by omega, (hk p hlt).trans hh, fun j s hj => ?_⟩
      obtain ⟨u, hu, hs⟩ := hc j s hj
      exact ⟨u, hu, hs.keep hb hk⟩

theorem MsgS.keep {w w' : World} {base base' x m : Nat} {F : List SD} (h : MsgS w base x m F) (hb : base ≤ base') (hk : ∀ k, k < w.heap.size → w'.heap[k]? = w.heap[k]?) (hbs : base ≤ w.heap.size) : MsgS w' base' x m F := by
  obtain ⟨T, hT, hTb, hx⟩ := h.hx
  obtain ⟨D, T2, hT2, hT2b, hm, hr⟩ := h.hm
  refine ⟨⟨T, hT, hTb, (hk x (lt_of_heap hx)).trans hx⟩, D, T2, hT2, hT2b, (hk m (lt_of_heap hm)).trans hm, fun i sd hi => ?_⟩
  obtain ⟨v, hv, hs⟩ := hr i sd hi
  exact ⟨v, hv, hs.keep hb fun k h => hk k (by omega)⟩

set_option maxRecDepth 100000 in
set_option maxHeartbeats 4000000 in
theorem em_s11 {base q x m y : Nat} {f : SH} {v : Value} {X : List UInt8} (w : World) (K : ShFit f) (hX : X.length < 65536) (hM : MsgS w base x m (shS f)) (hy : w.heap[y]? = some (.cells #[v] 22 (0, 0))) (hv : SrcB w base v X) (hxq : x ≠ q) (hmq : m ≠ q) (hyq : y ≠ q) (hbq : base ≤ q) (hbw : base ≤ w.heap.size) :
    Emits base q 135 #[.pointer (some ⟨x, 0, none⟩), .pointer (some ⟨y, 0, none⟩)] (en 2 f.vers ++ f.random ++ (en 1 f.session.length ++ f.session) ++ en 2 f.cipher ++ en 1 f.comp ++ (if X = [] then [] else en 2 X.length ++ X)) w := by
  obtain ⟨XO, hXO⟩ : ∃ XO, XO = (if X = [] then [] else en 2 X.length ++ X) := ⟨_, rfl⟩
  rw [← hXO]
  have HXO := Lib.hid hXO
  clear hXO
  intro c off pl bs w' hk hf hB hl
  have hM' := hM.ks hk hbq hxq hmq
  have HM := Lib.hid hM'
  have HB := Lib.hid hB
  have HF := Lib.hid hf
  have HY := Lib.hid (hk.other hy (by decide) hyq)
  have HV := Lib.hid (hv.ks hk hbq)
  have hsz : base ≤ w'.heap.size := Nat.le_trans hbw hk.size
  have cx := hM'.cell
  have q1 := hM'.val (i := 1) rfl
  have HL := Lib.hid hl
  have hl0 : bs.length + 2 + 32 + 1 + f.session.length + 2 + 1 ≤ 70368744177664 := by
    have := K.random
    simp only [List.length_append, en_length] at hl
    omega
  have kv := K.vers
  have kc := K.cipher
  have kk := K.comp
  have kr := K.random
  clear hk hf hB hM hM' hy hv hl
  simp only [List.append_toArray, List.cons_append, List.nil_append]
  go_enter Try.func135, Try.ntmps135
  go_wp2_with fail
  refine (add16_ok _ w' (by omega) (by omega) HB.out (by omega)).mono ?_
  rintro e w1 ⟨rfl, hb, hfr⟩
  have hK : Ks base q w' w1 := Ks.of_fr hfr (.inr HB.out.isBld)
  have HB1 := Lib.hid hb
  have FR1 := Lib.hid (hfr)
  have HM1 := Lib.hid (HM.out.ks hK hbq hxq hmq)
  have HF1 := Lib.hid (hfr.flag HF.out (HB.out.ne_flag HF.out))
  have HY1 := Lib.hid (hK.other HY.out (by decide) hyq)
  have HV1 := Lib.hid (HV.out.ks hK hbq)
  have hsz1 : base ≤ w1.heap.size := Nat.le_trans hsz hfr.size
  clear hb hfr hK
  obtain ⟨vr, qr, hvr⟩ := HM1.out.src (i := 2) rfl
  have HVR := Lib.hid hvr
  have cx1 := HM1.out.cell
  clear hvr
  go_wp2_with fail
  refine (abwl_ok w1 HB1.out HVR.out (by omega) (by simp [en_length]; omega) 32 (by omega)).mono ?_
  rintro e w2 ⟨rfl, hb, hfr⟩
  have hK : Ks base q w1 w2 := Ks.of_fr hfr (.inr HB1.out.isBld)
  have HB2 := Lib.hid hb
  have FR2 := Lib.hid (FR1.out.trans hfr)
  have HM2 := Lib.hid (HM1.out.ks hK hbq hxq hmq)
  have HF2 := Lib.hid (hfr.flag HF1.out (HB1.out.ne_flag HF1.out))
  have HY2 := Lib.hid (hK.other HY1.out (by decide) hyq)
  have HV2 := Lib.hid (HV1.out.ks hK hbq)
  have hsz2 : base ≤ w2.heap.size := Nat.le_trans hsz1 hfr.size
  clear hb hfr hK
  go_wp2_with fail
  refine (lp1_flag (out := f.session) w2 K.session HB2.out HF2.out (by simp [en_length]; omega) (enter_of Try.func137 (by kernel_rfl) (by kernel_rfl)) (em_s11a w2 HM2.out hxq hmq hbq)).mono ?_
  rintro e w3 ⟨rfl, hb, hfr⟩
  have hK : Ks base q w2 w3 := Ks.of_fr hfr (.inr HB2.out.isBld)
  have HB3 := Lib.hid hb
  have FR3 := Lib.hid (FR2.out.trans hfr)
  have HM3 := Lib.hid (HM2.out.ks hK hbq hxq hmq)
  have HF3 := Lib.hid (hfr.flag HF2.out (HB2.out.ne_flag HF2.out))
  have HY3 := Lib.hid (hK.other HY2.out (by decide) hyq)
  have HV3 := Lib.hid (HV2.out.ks hK hbq)
  have hsz3 : base ≤ w3.heap.size := Nat.le_trans hsz2 hfr.size
  clear hb hfr hK
  have cx3 := HM3.out.cell
  have q4 := HM3.out.val (i := 4) rfl
  go_wp2_with fail
  refine (add16_ok _ w3 (by omega) (by omega) HB3.out (by simp [en_length]; omega)).mono ?_
  rintro e w4 ⟨rfl, hb, hfr⟩
  have hK : Ks base q w3 w4 := Ks.of_fr hfr (.inr HB3.out.isBld)
  have HB4 := Lib.hid hb
  have FR4 := Lib.hid (FR3.out.trans hfr)
  have HM4 := Lib.hid (HM3.out.ks hK hbq hxq hmq)
  have HF4 := Lib.hid (hfr.flag HF3.out (HB3.out.ne_flag HF3.out))
  have HY4 := Lib.hid (hK.other HY3.out (by decide) hyq)
  have HV4 := Lib.hid (HV3.out.ks hK hbq)
  have hsz4 : base ≤ w4.heap.size := Nat.le_trans hsz3 hfr.size
  clear hb hfr hK
  have cx4 := HM4.out.cell
  have q5 := HM4.out.val (i := 5) rfl
  go_wp2_with fail
  refine (add8_ok _ w4 (by omega) (by omega) HB4.out (by simp [en_length]; omega)).mono ?_
  rintro e w5 ⟨rfl, hb, hfr⟩
  have hK : Ks base q w4 w5 := Ks.of_fr hfr (.inr HB4.out.isBld)
  have HB5 := Lib.hid hb
  have FR5 := Lib.hid (FR4.out.trans hfr)
  have HM5 := Lib.hid (HM4.out.ks hK hbq hxq hmq)
  have HF5 := Lib.hid (hfr.flag HF4.out (HB4.out.ne_flag HF4.out))
  have HY5 := Lib.hid (hK.other HY4.out (by decide) hyq)
  have HV5 := Lib.hid (HV4.out.ks hK hbq)
  have hsz5 : base ≤ w5.heap.size := Nat.le_trans hsz4 hfr.size
  clear hb hfr hK
  have cy := cell_head HY5.out
  obtain ⟨av, kav, hve⟩ := HV5.out.len
  subst hve
  by_cases h0 : X = []
  · subst h0
    have E0 := Lib.hid (show XO = [] by rw [HXO.out]; exact if_pos rfl)
    go_wp2_with fail
    go_end0
    refine ⟨rfl, ?_, FR5.out⟩
    rw [E0.out]
    have h := HB5.out
    simpa only [List.append_assoc, List.append_nil, Int.toNat_natCast] using h
  · have hp : 0 < X.length := List.length_pos_iff.2 h0
    have hp2 : (0 : Int) < (X.length : Int) := by omega
    have E0 := Lib.hid (show XO = en 2 X.length ++ X by rw [HXO.out]; exact if_neg h0)
    have hl5 := HL.out
    rw [E0.out] at hl5
    clear h0
    have HL5 := Lib.hid hl5
    clear hl5
    go_wp2_with fail
    refine (lp2_flag (out := X) w5 hX HB5.out HF5.out (by have h := HL5.out; simp only [List.length_append, en_length] at h ⊢; omega) (enter_of Try.func138 (by kernel_rfl) (by kernel_rfl)) (em_s11b w5 HY5.out HV5.out hyq hbq)).mono ?_
    rintro e w6 ⟨rfl, hb, hfr⟩
    have HB6 := Lib.hid hb
    have FR6 := Lib.hid (FR5.out.trans hfr)
    clear hb hfr
    go_wp2_with fail
    go_end0
    refine ⟨rfl, ?_, FR6.out⟩
    rw [E0.out]
    have h := HB6.out
    simpa only [List.append_assoc, Int.toNat_natCast] using h

set_option maxRecDepth 100000 in
set_option maxHeartbeats 16000000 in
theorem sh_marshal {m : Nat} {f : SH} (w : World) (K : ShFit f) (hX : (encX (shX f)).length < 65536) (hm : ShIn w w.heap.size m f) :
    Calls Try.prog 92 #[.pointer (some ⟨m, 0, none⟩)] w fun e w' => ∃ v, e = .returned (.tuple #[v, .nilIface]) ∧ w'.ownsRow w.heap.size 5 1 v (wSH f).length ((wSH f).map by8) ∧ Below w.heap.size w w' := by
  obtain ⟨D, hD, hr⟩ := hm
  have hml := lt_of_heap hD
  have q : w.cell? ⟨m, 6, none⟩ = some (.bool f.ocsp) := by
    obtain ⟨v, hv, hs⟩ := hr 6 _ rfl
    rw [cell_of_heap hD, hv]
    exact congrArg some hs
  obtain ⟨W, hW⟩ : ∃ W, W = (w.alloc (.cells #[.pointer (some ⟨m, 0, none⟩)] 127)).alloc (.cells #[.nilIface, .slice none 0 0, .bool false, .pointer none, .int .i64 0, .int .i64 0, .bool false, .pointer none] 169) := ⟨_, rfl⟩
  have hk : ∀ k, k < w.heap.size → W.heap[k]? = w.heap[k]? := fun k hk => by rw [hW]; exact (Below.heap_alloc _ _ _ (by simp; omega)).trans (Below.heap_alloc _ _ _ hk)
  have HM0 : Hid (MsgS W w.heap.size w.heap.size m (shS f)) := Lib.hid ⟨⟨127, by decide, by decide, by rw [hW]; exact heap_push (heap_alloc_new _ _)⟩, D, 131, by decide, by decide, (hk m hml).trans hD, fun i sd hi => by
    obtain ⟨v, hv, hs⟩ := hr i sd hi
    exact ⟨v, hv, hs.keep (Nat.le_refl _) hk⟩⟩
  have HB0 : Hid (BS W w.heap.size (w.heap.size + 1) []) := Lib.hid (by
    have h := BS.new (w.alloc (.cells #[.pointer (some ⟨m, 0, none⟩)] 127)) (base := w.heap.size) (by simp)
    rw [World.size_alloc] at h
    rw [hW]; exact h)
  have FR0 : Hid (Below w.heap.size w W) := Lib.hid (by rw [hW]; exact ((Below.refl _ w).alloc (Nat.le_refl _) _).alloc (by simp) _)
  have hws : W.heap.size = w.heap.size + 2 := by rw [hW]; simp
  have HW := Lib.hid hW
  have HWS := Lib.hid hws
  clear hD hr hW hk hws
  obtain ⟨sz, hsz⟩ : ∃ sz, sz = w.heap.size := ⟨_, rfl⟩
  have HSZ := Lib.hid hsz
  go_enter Try.func92, Try.ntmps92
  go_upto_if 11 with fail
  rw [← HW.out]
  rw [← hsz] at HM0 HB0 FR0 ⊢
  clear q hml hsz
  have FRC0 : Hid (Fr sz (sz + 1) W W) := Lib.hid (Fr.refl _ _ _)
  have hl0 : ([] : List UInt8).length ≤ 4294967296 := by simp
  obtain ⟨B0, hB0⟩ : ∃ B, B = ([] : List UInt8) := ⟨_, rfl⟩
  rw [← hB0] at HB0 hl0
  have hn0 : B0.length ≤ 0 := by rw [hB0]; simp
  have HE0 := Lib.hid hB0
  clear hB0 hl0
  have hlen := sl_0 (f := f) (bs := B0) K
  refine Code.wp_mono (Q := SpPost W sz sz m (sz + 1) (shS f) (B0 ++ encX (one (f.ocsp = true) 5 (([] : List UInt8)))) 129) ?_ (sp_0 W K rfl rfl rfl rfl (by first | (rw [Bool.decide_coe]) | (rw [decide_eq_decide]; omega) | (simp; done) | exact neq0 _) HB0.out HM0.out (by omega))
  rintro e ⟨s', dl⟩ w1 ⟨rfl, hdf, hs, h1, h4, hB, hM, hF⟩
  simp only at hdf hs h1 h4
  subst hdf
  obtain ⟨z1, rfl⟩ := arr129 s' hs
  have e1 : z1 1 = .pointer (some ⟨sz, 0, none⟩) := Option.some.inj h1
  have e4 : z1 4 = .pointer (some ⟨sz + 1, 0, none⟩) := Option.some.inj h4
  rw [e1, e4]
  obtain ⟨B1, hBn⟩ : ∃ B, B = B0 ++ encX (one (f.ocsp = true) 5 (([] : List UInt8))) := ⟨_, rfl⟩
  rw [← hBn] at hB hlen
  have HE1 := Lib.hid hBn
  have HB1 := Lib.hid hB
  have HM1 := Lib.hid hM
  have FRC1 := Lib.hid (FRC0.out.trans hF)
  have hn1 : B1.length ≤ 1 * 70000 := by omega
  clear hs h1 h4 e1 e4 hBn hB hM hF hlen hn0
  simp only [Exit.then]
  have cx := HM1.out.cell
  have q := HM1.out.val (i := 7) rfl
  go_upto_if 17 with fail
  clear q cx
  have hlen := sl_1 (f := f) (bs := B1) K
  refine Code.wp_mono (Q := SpPost w1 sz sz m (sz + 1) (shS f) (B1 ++ encX (one (f.ticket = true) 35 (([] : List UInt8)))) 129) ?_ (sp_1 w1 K rfl rfl rfl rfl (by first | (rw [Bool.decide_coe]) | (rw [decide_eq_decide]; omega) | (simp; done) | exact neq0 _) HB1.out HM1.out (by omega))
  rintro e ⟨s', dl⟩ w2 ⟨rfl, hdf, hs, h1, h4, hB, hM, hF⟩
  simp only at hdf hs h1 h4
  subst hdf
  obtain ⟨z2, rfl⟩ := arr129 s' hs
  have e1 : z2 1 = .pointer (some ⟨sz, 0, none⟩) := Option.some.inj h1
  have e4 : z2 4 = .pointer (some ⟨sz + 1, 0, none⟩) := Option.some.inj h4
  rw [e1, e4]
  obtain ⟨B2, hBn⟩ : ∃ B, B = B1 ++ encX (one (f.ticket = true) 35 (([] : List UInt8))) := ⟨_, rfl⟩
  rw [← hBn] at hB hlen
  have HE2 := Lib.hid hBn
  have HB2 := Lib.hid hB
  have HM2 := Lib.hid hM
  have FRC2 := Lib.hid (FRC1.out.trans hF)
  have hn2 : B2.length ≤ 2 * 70000 := by omega
  clear hs h1 h4 e1 e4 hBn hB hM hF hlen hn1
  simp only [Exit.then]
  have cx := HM2.out.cell
  have q := HM2.out.val (i := 8) rfl
  go_upto_if 23 with fail
  clear q cx
  have hlen := sl_2 (f := f) (bs := B2) K
  refine Code.wp_mono (Q := SpPost w2 sz sz m (sz + 1) (shS f) (B2 ++ encX (one (f.srs = true) 65281 (en 1 f.sr.length ++ f.sr))) 129) ?_ (sp_2 w2 K rfl rfl rfl rfl (by first | (rw [Bool.decide_coe]) | (rw [decide_eq_decide]; omega) | (simp; done) | exact neq0 _) HB2.out HM2.out (by omega))
  rintro e ⟨s', dl⟩ w3 ⟨rfl, hdf, hs, h1, h4, hB, hM, hF⟩
  simp only at hdf hs h1 h4
  subst hdf
  obtain ⟨z3, rfl⟩ := arr129 s' hs
  have e1 : z3 1 = .pointer (some ⟨sz, 0, none⟩) := Option.some.inj h1
  have e4 : z3 4 = .pointer (some ⟨sz + 1, 0, none⟩) := Option.some.inj h4
  rw [e1, e4]
  obtain ⟨B3, hBn⟩ : ∃ B, B = B2 ++ encX (one (f.srs = true) 65281 (en 1 f.sr.length ++ f.sr)) := ⟨_, rfl⟩
  rw [← hBn] at hB hlen
  have HE3 := Lib.hid hBn
  have HB3 := Lib.hid hB
  have HM3 := Lib.hid hM
  have FRC3 := Lib.hid (FRC2.out.trans hF)
  have hn3 : B3.length ≤ 3 * 70000 := by omega
  clear hs h1 h4 e1 e4 hBn hB hM hF hlen hn2
  simp only [Exit.then]
  have cx := HM3.out.cell
  have q := HM3.out.val (i := 10) rfl
  go_upto_if 30 with fail
  clear q cx
  have hlen := sl_3 (f := f) (bs := B3) K
  refine Code.wp_mono (Q := SpPost w3 sz sz m (sz + 1) (shS f) (B3 ++ encX (one (f.ems = true) 23 (([] : List UInt8)))) 129) ?_ (sp_3 w3 K rfl rfl rfl rfl (by first | (rw [Bool.decide_coe]) | (rw [decide_eq_decide]; omega) | (simp; done) | exact neq0 _) HB3.out HM3.out (by omega))
  rintro e ⟨s', dl⟩ w4 ⟨rfl, hdf, hs, h1, h4, hB, hM, hF⟩
  simp only at hdf hs h1 h4
  subst hdf
  obtain ⟨z4, rfl⟩ := arr129 s' hs
  have e1 : z4 1 = .pointer (some ⟨sz, 0, none⟩) := Option.some.inj h1
  have e4 : z4 4 = .pointer (some ⟨sz + 1, 0, none⟩) := Option.some.inj h4
  rw [e1, e4]
  obtain ⟨B4, hBn⟩ : ∃ B, B = B3 ++ encX (one (f.ems = true) 23 (([] : List UInt8))) := ⟨_, rfl⟩
  rw [← hBn] at hB hlen
  have HE4 := Lib.hid hBn
  have HB4 := Lib.hid hB
  have HM4 := Lib.hid hM
  have FRC4 := Lib.hid (FRC3.out.trans hF)
  have hn4 : B4.length ≤ 4 * 70000 := by omega
  clear hs h1 h4 e1 e4 hBn hB hM hF hlen hn3
  simp only [Exit.then]
  have cx := HM4.out.cell
  have q := HM4.out.val (i := 11) rfl
  go_upto_if 38 with fail
  clear q cx
  have hlen := sl_4 (f := f) (bs := B4) K
  refine Code.wp_mono (Q := SpPost w4 sz sz m (sz + 1) (shS f) (B4 ++ encX (one (0 < f.alpn.length) 16 (en 2 (en 1 f.alpn.length ++ f.alpn).length ++ (en 1 f.alpn.length ++ f.alpn)))) 129) ?_ (sp_4 w4 K rfl rfl rfl rfl (by first | (rw [Bool.decide_coe]) | (rw [decide_eq_decide]; omega) | (simp; done) | exact neq0 _) HB4.out HM4.out (by omega))
  rintro e ⟨s', dl⟩ w5 ⟨rfl, hdf, hs, h1, h4, hB, hM, hF⟩
  simp only at hdf hs h1 h4
  subst hdf
  obtain ⟨z5, rfl⟩ := arr129 s' hs
  have e1 : z5 1 = .pointer (some ⟨sz, 0, none⟩) := Option.some.inj h1
  have e4 : z5 4 = .pointer (some ⟨sz + 1, 0, none⟩) := Option.some.inj h4
  rw [e1, e4]
  obtain ⟨B5, hBn⟩ : ∃ B, B = B4 ++ encX (one (0 < f.alpn.length) 16 (en 2 (en 1 f.alpn.length ++ f.alpn).length ++ (en 1 f.alpn.length ++ f.alpn))) := ⟨_, rfl⟩
  rw [← hBn] at hB hlen
  have HE5 := Lib.hid hBn
  have HB5 := Lib.hid hB
  have HM5 := Lib.hid hM
  have FRC5 := Lib.hid (FRC4.out.trans hF)
  have hn5 : B5.length ≤ 5 * 70000 := by omega
  clear hs h1 h4 e1 e4 hBn hB hM hF hlen hn4
  simp only [Exit.then]
  have cx := HM5.out.cell
  obtain ⟨vq, q, hvq⟩ := HM5.out.lst (i := 12) rfl
  obtain ⟨aq, kq, rfl, _⟩ := hvq.len
  clear hvq
  go_upto_if 47 with fail
  clear q cx
  have hlen := sl_5 (f := f) (bs := B5) K
  refine Code.wp_mono (Q := SpPost w5 sz sz m (sz + 1) (shS f) (B5 ++ encX (one (0 < f.scts.length) 18 (en 2 (vecs 2 f.scts).length ++ vecs 2 f.scts))) 129) ?_ (sp_5 w5 K rfl rfl rfl rfl (by first | (rw [Bool.decide_coe]) | (rw [decide_eq_decide]; omega) | (simp; done) | exact neq0 _) HB5.out HM5.out (by omega))
  rintro e ⟨s', dl⟩ w6 ⟨rfl, hdf, hs, h1, h4, hB, hM, hF⟩
  simp only at hdf hs h1 h4
  subst hdf
  obtain ⟨z6, rfl⟩ := arr129 s' hs
  have e1 : z6 1 = .pointer (some ⟨sz, 0, none⟩) := Option.some.inj h1
  have e4 : z6 4 = .pointer (some ⟨sz + 1, 0, none⟩) := Option.some.inj h4
  rw [e1, e4]
  obtain ⟨B6, hBn⟩ : ∃ B, B = B5 ++ encX (one (0 < f.scts.length) 18 (en 2 (vecs 2 f.scts).length ++ vecs 2 f.scts)) := ⟨_, rfl⟩
  rw [← hBn] at hB hlen
  have HE6 := Lib.hid hBn
  have HB6 := Lib.hid hB
  have HM6 := Lib.hid hM
  have FRC6 := Lib.hid (FRC5.out.trans hF)
  have hn6 : B6.length ≤ 6 * 70000 := by omega
  clear hs h1 h4 e1 e4 hBn hB hM hF hlen hn5
  simp only [Exit.then]
  have cx := HM6.out.cell
  have q := HM6.out.val (i := 13) rfl
  go_upto_if 55 with fail
  clear q cx
  have hlen := sl_6 (f := f) (bs := B6) K
  refine Code.wp_mono (Q := SpPost w6 sz sz m (sz + 1) (shS f) (B6 ++ encX (one (f.sver ≠ 0) 43 (en 2 f.sver))) 129) ?_ (sp_6 w6 K rfl rfl rfl rfl (by first | (rw [Bool.decide_coe]) | (rw [decide_eq_decide]; omega) | (simp; done) | exact neq0 _) HB6.out HM6.out (by omega))
  rintro e ⟨s', dl⟩ w7 ⟨rfl, hdf, hs, h1, h4, hB, hM, hF⟩
  simp only at hdf hs h1 h4
  subst hdf
  obtain ⟨z7, rfl⟩ := arr129 s' hs
  have e1 : z7 1 = .pointer (some ⟨sz, 0, none⟩) := Option.some.inj h1
  have e4 : z7 4 = .pointer (some ⟨sz + 1, 0, none⟩) := Option.some.inj h4
  rw [e1, e4]
  obtain ⟨B7, hBn⟩ : ∃ B, B = B6 ++ encX (one (f.sver ≠ 0) 43 (en 2 f.sver)) := ⟨_, rfl⟩
  rw [← hBn] at hB hlen
  have HE7 := Lib.hid hBn
  have HB7 := Lib.hid hB
  have HM7 := Lib.hid hM
  have FRC7 := Lib.hid (FRC6.out.trans hF)
  have hn7 : B7.length ≤ 7 * 70000 := by omega
  clear hs h1 h4 e1 e4 hBn hB hM hF hlen hn6
  simp only [Exit.then]
  have cx := HM7.out.cell
  have q := HM7.out.val (i := 14) rfl
  go_upto_if 64 with fail
  clear q cx
  have hlen := sl_7 (f := f) (bs := B7) K
  refine Code.wp_mono (Q := SpPost w7 sz sz m (sz + 1) (shS f) (B7 ++ encX (one (f.sgroup ≠ 0) 51 (en 2 f.sgroup ++ en 2 f.sdata.length ++ f.sdata))) 129) ?_ (sp_7 w7 K rfl rfl rfl rfl (by first | (rw [Bool.decide_coe]) | (rw [decide_eq_decide]; omega) | (simp; done) | exact neq0 _) HB7.out HM7.out (by omega))
  rintro e ⟨s', dl⟩ w8 ⟨rfl, hdf, hs, h1, h4, hB, hM, hF⟩
  simp only at hdf hs h1 h4
  subst hdf
  obtain ⟨z8, rfl⟩ := arr129 s' hs
  have e1 : z8 1 = .pointer (some ⟨sz, 0, none⟩) := Option.some.inj h1
  have e4 : z8 4 = .pointer (some ⟨sz + 1, 0, none⟩) := Option.some.inj h4
  rw [e1, e4]
  obtain ⟨B8, hBn⟩ : ∃ B, B = B7 ++ encX (one (f.sgroup ≠ 0) 51 (en 2 f.sgroup ++ en 2 f.sdata.length ++ f.sdata)) := ⟨_, rfl⟩
  rw [← hBn] at hB hlen
  have HE8 := Lib.hid hBn
  have HB8 := Lib.hid hB
  have HM8 := Lib.hid hM
  have FRC8 := Lib.hid (FRC7.out.trans hF)
  have hn8 : B8.length ≤ 8 * 70000 := by omega
  clear hs h1 h4 e1 e4 hBn hB hM hF hlen hn7
  simp only [Exit.then]
  have cx := HM8.out.cell
  have q := HM8.out.val (i := 16) rfl
  go_upto_if 71 with fail
  clear q cx
  have hlen := sl_8 (f := f) (bs := B8) K
  refine Code.wp_mono (Q := SpPost w8 sz sz m (sz + 1) (shS f) (B8 ++ encX (one (f.sip = true) 41 (en 2 f.sid))) 129) ?_ (sp_8 w8 K rfl rfl rfl rfl (by first | (rw [Bool.decide_coe]) | (rw [decide_eq_decide]; omega) | (simp; done) | exact neq0 _) HB8.out HM8.out (by omega))
  rintro e ⟨s', dl⟩ w9 ⟨rfl, hdf, hs, h1, h4, hB, hM, hF⟩
  simp only at hdf hs h1 h4
  subst hdf
  obtain ⟨z9, rfl⟩ := arr129 s' hs
  have e1 : z9 1 = .pointer (some ⟨sz, 0, none⟩) := Option.some.inj h1
  have e4 : z9 4 = .pointer (some ⟨sz + 1, 0, none⟩) := Option.some.inj h4
  rw [e1, e4]
  obtain ⟨B9, hBn⟩ : ∃ B, B = B8 ++ encX (one (f.sip = true) 41 (en 2 f.sid)) := ⟨_, rfl⟩
  rw [← hBn] at hB hlen
  have HE9 := Lib.hid hBn
  have HB9 := Lib.hid hB
  have HM9 := Lib.hid hM
  have FRC9 := Lib.hid (FRC8.out.trans hF)
  have hn9 : B9.length ≤ 9 * 70000 := by omega
  clear hs h1 h4 e1 e4 hBn hB hM hF hlen hn8
  simp only [Exit.then]
  have cx := HM9.out.cell
  obtain ⟨vq, q, hvq⟩ := HM9.out.src (i := 21) rfl
  obtain ⟨aq, kq, rfl⟩ := hvq.len
  clear hvq
  go_upto_if 80 with fail
  clear q cx
  have hlen := sl_9 (f := f) (bs := B9) K
  refine Code.wp_mono (Q := SpPost w9 sz sz m (sz + 1) (shS f) (B9 ++ encX (one (0 < f.cookie.length) 44 (en 2 f.cookie.length ++ f.cookie))) 129) ?_ (sp_9 w9 K rfl rfl rfl rfl (by first | (rw [Bool.decide_coe]) | (rw [decide_eq_decide]; omega) | (simp; done) | exact neq0 _) HB9.out HM9.out (by omega))
  rintro e ⟨s', dl⟩ w10 ⟨rfl, hdf, hs, h1, h4, hB, hM, hF⟩
  simp only at hdf hs h1 h4
  subst hdf
  obtain ⟨z10, rfl⟩ := arr129 s' hs
  have e1 : z10 1 = .pointer (some ⟨sz, 0, none⟩) := Option.some.inj h1
  have e4 : z10 4 = .pointer (some ⟨sz + 1, 0, none⟩) := Option.some.inj h4
  rw [e1, e4]
  obtain ⟨B10, hBn⟩ : ∃ B, B = B9 ++ encX (one (0 < f.cookie.length) 44 (en 2 f.cookie.length ++ f.cookie)) := ⟨_, rfl⟩
  rw [← hBn] at hB hlen
  have HE10 := Lib.hid hBn
  have HB10 := Lib.hid hB
  have HM10 := Lib.hid hM
  have FRC10 := Lib.hid (FRC9.out.trans hF)
  have hn10 : B10.length ≤ 10 * 70000 := by omega
  clear hs h1 h4 e1 e4 hBn hB hM hF hlen hn9
  simp only [Exit.then]
  have cx := HM10.out.cell
  have q := HM10.out.val (i := 22) rfl
  go_upto_if 88 with fail
  clear q cx
  have hlen := sl_10 (f := f) (bs := B10) K
  refine Code.wp_mono (Q := SpPost w10 sz sz m (sz + 1) (shS f) (B10 ++ encX (one (f.selg ≠ 0) 51 (en 2 f.selg))) 129) ?_ (sp_10 w10 K rfl rfl rfl rfl (by first | (rw [Bool.decide_coe]) | (rw [decide_eq_decide]; omega) | (simp; done) | exact neq0 _) HB10.out HM10.out (by omega))
  rintro e ⟨s', dl⟩ w11 ⟨rfl, hdf, hs, h1, h4, hB, hM, hF⟩
  simp only at hdf hs h1 h4
  subst hdf
  obtain ⟨z11, rfl⟩ := arr129 s' hs
  have e1 : z11 1 = .pointer (some ⟨sz, 0, none⟩) := Option.some.inj h1
  have e4 : z11 4 = .pointer (some ⟨sz + 1, 0, none⟩) := Option.some.inj h4
  rw [e1, e4]
  obtain ⟨B11, hBn⟩ : ∃ B, B = B10 ++ encX (one (f.selg ≠ 0) 51 (en 2 f.selg)) := ⟨_, rfl⟩
  rw [← hBn] at hB hlen
  have HE11 := Lib.hid hBn
  have HB11 := Lib.hid hB
  have HM11 := Lib.hid hM
  have FRC11 := Lib.hid (FRC10.out.trans hF)
  have hn11 : B11.length ≤ 11 * 70000 := by omega
  clear hs h1 h4 e1 e4 hBn hB hM hF hlen hn10
  simp only [Exit.then]
  have cx := HM11.out.cell
  obtain ⟨vq, q, hvq⟩ := HM11.out.src (i := 18) rfl
  obtain ⟨aq, kq, rfl⟩ := hvq.len
  clear hvq
  go_upto_if 97 with fail
  clear q cx
  have hlen := sl_11 (f := f) (bs := B11) K
  refine Code.wp_mono (Q := SpPost w11 sz sz m (sz + 1) (shS f) (B11 ++ encX (one (0 < f.pts.length) 11 (en 1 f.pts.length ++ f.pts))) 129) ?_ (sp_11 w11 K rfl rfl rfl rfl (by first | (rw [Bool.decide_coe]) | (rw [decide_eq_decide]; omega) | (simp; done) | exact neq0 _) HB11.out HM11.out (by omega))
  rintro e ⟨s', dl⟩ w12 ⟨rfl, hdf, hs, h1, h4, hB, hM, hF⟩
  simp only at hdf hs h1 h4
  subst hdf
  obtain ⟨z12, rfl⟩ := arr129 s' hs
  have e1 : z12 1 = .pointer (some ⟨sz, 0, none⟩) := Option.some.inj h1
  have e4 : z12 4 = .pointer (some ⟨sz + 1, 0, none⟩) := Option.some.inj h4
  rw [e1, e4]
  obtain ⟨B12, hBn⟩ : ∃ B, B = B11 ++ encX (one (0 < f.pts.length) 11 (en 1 f.pts.length ++ f.pts)) := ⟨_, rfl⟩
  rw [← hBn] at hB hlen
  have HE12 := Lib.hid hBn
  have HB12 := Lib.hid hB
  have HM12 := Lib.hid hM
  have FRC12 := Lib.hid (FRC11.out.trans hF)
  have hn12 : B12.length ≤ 12 * 70000 := by omega
  clear hs h1 h4 e1 e4 hBn hB hM hF hlen hn11
  simp only [Exit.then]
  have cx := HM12.out.cell
  obtain ⟨vq, q, hvq⟩ := HM12.out.src (i := 19) rfl
  obtain ⟨aq, kq, rfl⟩ := hvq.len
  clear hvq
  go_upto_if 106 with fail
  clear q cx
  have hlen := sl_12 (f := f) (bs := B12) K
  refine Code.wp_mono (Q := SpPost w12 sz sz m (sz + 1) (shS f) (B12 ++ encX (one (0 < f.ech.length) 65037 (f.ech))) 129) ?_ (sp_12 w12 K rfl rfl rfl rfl (by first | (rw [Bool.decide_coe]) | (rw [decide_eq_decide]; omega) | (simp; done) | exact neq0 _) HB12.out HM12.out (by omega))
  rintro e ⟨s', dl⟩ w13 ⟨rfl, hdf, hs, h1, h4, hB, hM, hF⟩
  simp only at hdf hs h1 h4
  subst hdf
  obtain ⟨z13, rfl⟩ := arr129 s' hs
  have e1 : z13 1 = .pointer (some ⟨sz, 0, none⟩) := Option.some.inj h1
  have e4 : z13 4 = .pointer (some ⟨sz + 1, 0, none⟩) := Option.some.inj h4
  rw [e1, e4]
  obtain ⟨B13, hBn⟩ : ∃ B, B = B12 ++ encX (one (0 < f.ech.length) 65037 (f.ech)) := ⟨_, rfl⟩
  rw [← hBn] at hB hlen
  have HE13 := Lib.hid hBn
  have HB13 := Lib.hid hB
  have HM13 := Lib.hid hM
  have FRC13 := Lib.hid (FRC12.out.trans hF)
  have hn13 : B13.length ≤ 13 * 70000 := by omega
  clear hs h1 h4 e1 e4 hBn hB hM hF hlen hn12
  simp only [Exit.then]
  have cx := HM13.out.cell
  have q := HM13.out.val (i := 20) rfl
  go_upto_if 113 with fail
  clear q cx
  have hlen := sl_13 (f := f) (bs := B13) K
  refine Code.wp_mono (Q := SpPost w13 sz sz m (sz + 1) (shS f) (B13 ++ encX (one (f.sna = true) 0 (([] : List UInt8)))) 129) ?_ (sp_13 w13 K rfl rfl rfl rfl (by first | (rw [Bool.decide_coe]) | (rw [decide_eq_decide]; omega) | (simp; done) | exact neq0 _) HB13.out HM13.out (by omega))
  rintro e ⟨s', dl⟩ w14 ⟨rfl, hdf, hs, h1, h4, hB, hM, hF⟩
  simp only at hdf hs h1 h4
  subst hdf
  obtain ⟨z14, rfl⟩ := arr129 s' hs
  have e1 : z14 1 = .pointer (some ⟨sz, 0, none⟩) := Option.some.inj h1
  have e4 : z14 4 = .pointer (some ⟨sz + 1, 0, none⟩) := Option.some.inj h4
  rw [e1, e4]
  obtain ⟨B14, hBn⟩ : ∃ B, B = B13 ++ encX (one (f.sna = true) 0 (([] : List UInt8))) := ⟨_, rfl⟩
  rw [← hBn] at hB hlen
  have HE14 := Lib.hid hBn
  have HB14 := Lib.hid hB
  have HM14 := Lib.hid hM
  have FRC14 := Lib.hid (FRC13.out.trans hF)
  have hn14 : B14.length ≤ 14 * 70000 := by omega
  clear hs h1 h4 e1 e4 hBn hB hM hF hlen hn13
  simp only [Exit.then]
  have cx := HM14.out.cell
  clear cx
  have hEX : B14 = encX (shX f) := by
    rw [HE14.out, HE13.out, HE12.out, HE11.out, HE10.out, HE9.out, HE8.out, HE7.out, HE6.out, HE5.out, HE4.out, HE3.out, HE2.out, HE1.out, HE0.out]
    simp only [shX, encX_append, List.nil_append, List.append_assoc]
  rw [hEX] at HB14
  clear hEX hn14
  go_wp2_with fail
  refine (bs_bytes w14 HB14.out).mono ?_
  rintro e w15 ⟨v, rfl, hown, rfl⟩
  obtain ⟨ao, co, rfl⟩ := row_slice hown
  obtain ⟨X, hXX⟩ : ∃ X, X = encX (shX f) := ⟨_, rfl⟩
  rw [← hXX] at hown hX ⊢
  have HXX := Lib.hid hXX
  obtain ⟨yB, hyB⟩ : ∃ y, y = w14.heap.size := ⟨_, rfl⟩
  obtain ⟨V, hV⟩ : ∃ V, V = ((w14.alloc (.cells #[.slice ao X.length co] 22)).alloc (.cells #[.nilIface, .slice none 0 0, .bool false, .pointer none, .int .i64 0, .int .i64 0, .bool false, .pointer none] 169)).drew := ⟨_, rfl⟩
  have hVs : V.heap.size = yB + 2 := by rw [hV, hyB]; show ((w14.alloc _).alloc _).heap.size = _; simp
  have hVk : ∀ k, k < w14.heap.size → V.heap[k]? = w14.heap[k]? := fun k hk => by
    rw [hV]
    show ((w14.alloc _).alloc _).heap[k]? = _
    exact (Below.heap_alloc _ _ _ (by simp; omega)).trans (Below.heap_alloc _ _ _ hk)
  have hVy : V.heap[yB]? = some (.cells #[.slice ao X.length co] 22 (0, 0)) := by
    rw [hV, hyB]
    show ((w14.alloc _).alloc _).heap[_]? = _
    exact heap_push (heap_alloc_new _ _)
  have hszb : sz ≤ w14.heap.size := HB14.out.size
  have HMV : Hid (MsgS V (yB + 1) sz m (shS f)) := Lib.hid (HM14.out.keep (by omega) hVk hszb)
  have HVV : Hid (SrcB V (yB + 1) (.slice ao X.length co) X) := Lib.hid ((src_own hown (Nat.le_refl _)).keep (by show w14.heap.size ≤ _; omega) hVk)
  have HBV : Hid (BS V (yB + 1) (yB + 1) []) := Lib.hid (by
    have h := BS.new (w14.alloc (.cells #[.slice ao X.length co] 22)) (base := yB + 1) (by simp; omega)
    rw [World.size_alloc, ← hyB] at h
    obtain ⟨ic, hb, hq⟩ := h
    rw [hV]
    exact ⟨ic, hb, hq⟩)
  have HFV : Hid (Below w.heap.size w V) := Lib.hid (by
    rw [hV]
    have h := FR0.out.trans (FRC14.out.below (by have := HWS.out; have := HSZ.out; omega) (by omega))
    have e := HSZ.out
    rw [e] at h hszb
    exact ((h.alloc (by omega) _).alloc (by simp; omega) _).drew)
  have HVY := Lib.hid hVy
  have HV := Lib.hid hV
  have HYB := Lib.hid hyB
  clear hown hXX hV hVk hVy
  go_wp2_with fail
  rw [← HYB.out, ← HV.out]
  clear hyB
  refine (bs_add8 (base := yB + 1) 2 V (by omega) (by omega) HBV.out (by simp)).mono ?_
  rintro e w16 ⟨rfl, hb, hfr⟩
  have HB16 : Hid (BS w16 (yB + 1) (yB + 1) (en 1 2)) := Lib.hid (by simpa using hb)
  have HM16 := Lib.hid (HMV.out.fr hfr (.inr HBV.out.isBld))
  have HV16 := Lib.hid (HVV.out.fr hfr (Nat.le_refl _) (by omega))
  have HY16 := Lib.hid (hfr.other HVY.out (by decide) (by omega))
  have HF16 := Lib.hid hfr
  have hs16 := hfr.size
  clear hb hfr
  obtain ⟨Y, hY⟩ : ∃ Y, Y = shBodyB f := ⟨_, rfl⟩
  have hYe : Y = en 2 f.vers ++ f.random ++ (en 1 f.session.length ++ f.session) ++ en 2 f.cipher ++ en 1 f.comp ++ (if X = [] then [] else en 2 X.length ++ X) := by rw [hY, HXX.out]; rfl
  have hYl : Y.length < 16777216 := by
    have := K.random
    have := K.session
    have hxo : (if X = [] then [] else en 2 X.length ++ X).length ≤ 2 + X.length := by
      by_cases h : X = []
      · rw [if_pos h]; simp
      · rw [if_neg h]; simp [en_length]
    rw [hYe]
    simp only [List.length_append, en_length]
    omega
  have HYE := Lib.hid hYe
  have HYY := Lib.hid hY
  clear hYe hY
  go_wp2_with fail
  refine (bs_lp3 (out := Y) w16 hYl HB16.out (by simp [en_length]; omega) (enter_of Try.func135 (by kernel_rfl) (by kernel_rfl)) (fun q hq hqf => by
    obtain ⟨n1, n2⟩ := HM16.out.ne_any hqf
    have n3 : yB ≠ q := by omega
    rw [HYE.out]
    exact em_s11 w16 K hX HM16.out HY16.out HV16.out n1 n2 n3 hq (by omega))).mono ?_
  rintro e w17 ⟨rfl, hb, hfr⟩
  have HB17 : Hid (BS w17 (yB + 1) (yB + 1) (wSH f)) := Lib.hid (by
    unfold wSH
    rw [← HYY.out]
    exact hb)
  have HF17 := Lib.hid (HF16.out.trans hfr)
  clear hb hfr
  go_wp2_with fail
  refine (bs_bytes w17 HB17.out).mono ?_
  rintro e w18 ⟨v2, rfl, hown, rfl⟩
  have HOW := Lib.hid hown
  clear hown
  go_wp2_with fail
  go_ret2
  have e := HSZ.out
  have e2 := HYB.out
  refine ⟨v2, rfl, ownsRow_mono HOW.out (by omega), ?_⟩
  exact (HFV.out.trans ((HF17.out.below (by omega) (Nat.le_refl _)).mono (by omega))).drew
end Go.Proofs.Ytopcljikkdlffaa
