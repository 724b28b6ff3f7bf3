/- A Certificate of TLS 1.3 is made by package tls, and by package impl. No statement of the seat is proved here. -/
import Derived.Test.YtopcljikkdlffaaCm
namespace Go.Proofs.Ytopcljikkdlffaa
open Go.RowKit

/-- What is written of certificate number j. -/
def wone (f : C13) (j : Nat) : List UInt8 := match f.certs[j]? with
  | some c => en 3 c.length ++ c ++ en 2 (wext f j).length ++ wext f j
  | none => []

/-- What is written of the first j certificates. -/
def wpre (f : C13) : Nat → List UInt8
  | 0 => []
  | j + 1 => wpre f j ++ wone f j

theorem wpre_mono (f : C13) {j k : Nat} (h : j ≤ k) : (wpre f j).length ≤ (wpre f k).length := by
  induction k with
  | zero =>
    have e : j = 0 := by omega
    rw [e]
    exact Nat.le_refl _
  | succ k ih =>
    by_cases e : j = k + 1
    · subst e; exact Nat.le_refl _
    · have := ih (by omega)
      show _ ≤ (wpre f k ++ wone f k).length
      simp; omega

theorem wpre_all (f : C13) : wpre f f.certs.length = wcerts f := by
  cases hc : f.certs with
  | nil => unfold wcerts; rw [hc]; rfl
  | cons c L =>
    have key : ∀ k, k ≤ L.length → wpre f (k + 1) = en 3 c.length ++ c ++ en 2 (w5 f.staple ++ w18 f.stamps).length ++ (w5 f.staple ++ w18 f.stamps) ++ wrest (L.take k) := by
      intro k
      induction k with
      | zero =>
        intro _
        show [] ++ wone f 0 = _
        unfold wone
        rw [hc]
        simp [wext, wrest]
      | succ k ih =>
        intro hk
        show wpre f (k + 1) ++ wone f (k + 1) = _
        rw [ih (by omega), take_snoc (L := L) (j := k) (by omega), wrest_append]
        unfold wone
        rw [hc]
        simp only [List.getElem?_cons_succ]
        rw [List.getElem?_eq_getElem (by omega)]
        simp [wext, wrest]
    have h := key L.length (Nat.le_refl _)
    rw [List.take_length] at h
    unfold wcerts
    rw [hc]
    exact h

set_option maxRecDepth 100000 in
set_option maxHeartbeats 1000000 in
theorem em_146 {base q p : Nat} {f : C13} (w : World) (hp : CrtAt w base p f) (hpq : p ≠ q) (hbq : base ≤ q) (hfit : C13Fit f) (hcl : ∀ c ∈ f.certs, c.length < 16777216) (hn : f.certs.length ≤ 2147483647) :
    Emits base q 146 #[.pointer (some ⟨p, 0, none⟩)] (wcerts f) w := by
  intro c off pl bs w' hk hf hB hl
  rw [← wpre_all] at hl ⊢
  have hp' := hp.ks hk hbq hpq
  have HP := Lib.hid hp'
  obtain ⟨v0, v1, v2, hh, h0, _⟩ := hp'
  have c0 : w'.cell? ⟨p, 0, none⟩ = some v0 := by rw [cell_of_heap hh]; rfl
  obtain ⟨ad, cap, rfl, hx, _⟩ := h0.len
  have HS := Lib.hid h0
  have HB := Lib.hid hB
  have HF := Lib.hid hf
  have HL := Lib.hid hl
  have hpl := lt_of_heap hh
  have hql := lt_of_heap hf
  clear hk hf hB hp h0 hh hl
  simp only [List.append_toArray, List.cons_append, List.nil_append]
  go_enter Try.func146, Try.ntmps146
  go_wp2_with fail
  go_loopw [8] (fun i wr => ∃ j : Nat, j ≤ f.certs.length ∧ i = .int .i64 j ∧ BAt wr base c off pl (.pointer (some ⟨q, 0, none⟩)) (bs ++ wpre f j) ∧ Flag wr q true ∧ Fr base c w' wr ∧ SrcL wr base (.slice ad f.certs.length cap) f.certs ∧ CrtAt wr base p f) (fun i _ => f.certs.length - (intOf i).toNat)
  case atStart => exact ⟨0, by omega, rfl, by simpa [wpre] using HB.out, HF.out, Fr.refl _ _ _, HS.out, HP.out⟩
  case round =>
    obtain ⟨j, hj, rfl, hb, hfl, hfr, hsl, hpr⟩ := hrel
    have HBr := Lib.hid hb
    have HFr := Lib.hid hfl
    have HFRr := Lib.hid hfr
    have HSr := Lib.hid hsl
    have HPr := Lib.hid hpr
    clear hb hfl hfr hpr
    by_cases hjn : j < f.certs.length
    · obtain ⟨x, rfl⟩ := hx (by omega)
      obtain ⟨u, hu, hsrc⟩ := hsl.at hjn
      obtain ⟨au, cu, hue⟩ := hsrc.len
      obtain ⟨X, hX⟩ : ∃ X, X = f.certs[j] := ⟨_, rfl⟩
      rw [← hX] at hue hsrc
      subst hue
      have hxl : X.length < 16777216 := by rw [hX]; exact hcl _ (List.getElem_mem hjn)
      have hone : wone f j = en 3 X.length ++ X ++ en 2 (wext f j).length ++ wext f j := by
        unfold wone; rw [List.getElem?_eq_getElem hjn, ← hX]
      have hext : (wext f j).length < 65536 := by
        obtain ⟨_, _, h3⟩ := hfit
        have h5 := (w5_len f.staple).1
        have h18 := (w18_len f.stamps).1
        unfold wext
        split
        · simp; omega
        · simp
      have hvl := wpre_mono f (show j + 1 ≤ f.certs.length by omega)
      have hsn : wpre f (j + 1) = wpre f j ++ wone f j := rfl
      rw [hsn, hone] at hvl
      have hb1 : (bs ++ wpre f j).length + 3 + X.length + 2 + (wext f j).length ≤ 70368744177664 := by
        have := HL.out
        simp only [List.length_append, en_length] at hvl ⊢
        omega
      have HONE := Lib.hid hone
      have HSRC := Lib.hid hsrc
      have HB1 := Lib.hid hb1
      clear hsl hsrc hvl hsn hb1 hX hone
      go_wp2_with fail
      obtain ⟨iB, hiB⟩ : ∃ x, x = wr.heap.size := ⟨_, rfl⟩
      rw [← hiB]
      obtain ⟨xB, hxB⟩ : ∃ x, x = iB + 1 := ⟨_, rfl⟩
      rw [← hxB]
      obtain ⟨wA, hwA⟩ : ∃ x, x = (wr.alloc (.cells #[.int .i64 (j : Nat)] 3)).alloc (.cells #[.slice au X.length cu] 22) := ⟨_, rfl⟩
      rw [← hwA]
      have hqlt := lt_of_heap HFr.out
      have hiq : iB ≠ q := by omega
      have hxq : xB ≠ q := by omega
      have hnewi : wA.heap[iB]? = some (.cells #[.int .i64 (j : Nat)] 3 (0, 0)) := by rw [hwA, hiB]; exact heap_push (heap_alloc_new _ _)
      have hnew : wA.heap[xB]? = some (.cells #[.slice au X.length cu] 22 (0, 0)) := by
        have h := heap_alloc_new (wr.alloc (.cells #[.int .i64 (j : Nat)] 3)) (.cells #[.slice au X.length cu] 22)
        rw [World.size_alloc] at h
        rw [hwA, hxB, hiB]; exact h
      have hkA : Ks base q wr wA := by rw [hwA]; exact ((Ks.refl _ _ _).alloc _).alloc _
      have HBA : Hid (BAt wA base c off pl (.pointer (some ⟨q, 0, none⟩)) (bs ++ wpre f j)) := by rw [hwA]; exact (HBr.out.alloc _).alloc _
      have HFA : Hid (Flag wA q true) := by rw [hwA]; exact heap_push (heap_push HFr.out)
      have HFRA : Hid (Fr base c w' wA) := by rw [hwA]; exact (HFRr.out.alloc _).alloc _
      have HSA := Lib.hid (HSr.out.ks hkA hbq)
      have HPA := Lib.hid (HPr.out.ks hkA hbq hpq)
      have HE := Lib.hid (em_var147 wA hnew (HSRC.out.ks hkA hbq) hxq hbq)
      have HNI := Lib.hid hnewi
      clear hiB hxB hwA hxq hnew hkA hnewi
      refine (lp3_flag (out := X) wA hxl HBA.out HFA.out (by have := HB1.out; omega) (enter_of Try.func147 (by kernel_rfl) (by kernel_rfl)) HE.out).mono ?_
      rintro e w2 ⟨rfl, hb2, hfr2⟩
      have hK : Ks base q wA w2 := Ks.of_fr hfr2 (.inr HBA.out.isBld)
      have HB2 := Lib.hid hb2
      have HFR2 := Lib.hid hfr2
      have HF2 := Lib.hid (hfr2.flag HFA.out (HBA.out.ne_flag HFA.out))
      have HS2 := Lib.hid (HSA.out.ks hK hbq)
      have HP2 := Lib.hid (HPA.out.ks hK hbq hpq)
      have HNI2 := Lib.hid (hK.other HNI.out (by decide) hiq)
      clear hb2 hfr2 hK
      go_wp2_with fail
      refine (lp2_flag (out := wext f j) w2 hext HB2.out HF2.out (by have := HB1.out; simp only [List.length_append, en_length] at this ⊢; omega) (enter_of Try.func148 (by kernel_rfl) (by kernel_rfl)) (em_148 w2 HP2.out hpq hbq hfit HNI2.out hiq)).mono ?_
      rintro e w3 ⟨rfl, hb3, hfr3⟩
      have hK : Ks base q w2 w3 := Ks.of_fr hfr3 (.inr HB2.out.isBld)
      have HB3 := Lib.hid hb3
      have HFR3 := Lib.hid hfr3
      have HF3 := Lib.hid (hfr3.flag HF2.out (HB2.out.ne_flag HF2.out))
      have HS3 := Lib.hid (HS2.out.ks hK hbq)
      have HP3 := Lib.hid (HP2.out.ks hK hbq hpq)
      clear hb3 hfr3 hK
      go_wp2_with fail
      refine ⟨⟨j + 1, by omega, by simp, ?_, HF3.out, (HFRA.out.trans HFR2.out).trans HFR3.out, HS3.out, HP3.out⟩, by simp [intOf]; omega⟩
      show BAt w3 base c off pl _ (bs ++ (wpre f j ++ wone f j))
      rw [HONE.out]
      simpa only [List.append_assoc] using HB3.out
    · have hjn' : j = f.certs.length := by omega
      subst hjn'
      clear hsl
      go_wp2_with fail
      go_end0
      exact ⟨rfl, HBr.out, HFRr.out⟩

set_option maxRecDepth 100000 in
set_option maxHeartbeats 1000000 in
theorem mc_ok {base q c off pl : Nat} {f : C13} {v0 v1 v2 : Value} {bs : List UInt8} (w : World) (hfit : C13Fit f) (hcl : ∀ c ∈ f.certs, c.length < 16777216) (hn : f.certs.length ≤ 2147483647) (hw : (wcerts f).length < 16777216)
    (hB : BAt w base c off pl (.pointer (some ⟨q, 0, none⟩)) bs) (hf : Flag w q true) (hbq : base ≤ q) (hl : bs.length + 3 + (wcerts f).length ≤ 70368744177664)
    (h0 : SrcL w base v0 f.certs) (h1 : SrcB w base v1 f.staple) (h1n : v1 = .slice none 0 0 ↔ f.staple = []) (h2 : SrcL w base v2 f.stamps) (h2n : v2 = .slice none 0 0 ↔ f.stamps = []) :
    Calls Try.prog 108 #[.pointer (some ⟨c, 0, none⟩), .agg #[v0, v1, v2]] w fun e w' => e = .returned (.tuple #[]) ∧
      BAt w' base c off pl (.pointer (some ⟨q, 0, none⟩)) (bs ++ en 3 (wcerts f).length ++ wcerts f) ∧ Fr base c w w' := by
  have HB := Lib.hid (hB.alloc (.cells #[v0, v1, v2] 134))
  have hqlt := lt_of_heap hf
  have hpq : w.heap.size ≠ q := by omega
  have hkA : Ks base q w (w.alloc (.cells #[v0, v1, v2] 134)) := (Ks.refl _ _ _).alloc _
  have HF : Hid (Flag (w.alloc (.cells #[v0, v1, v2] 134)) q true) := Lib.hid (heap_push hf)
  have HP : Hid (CrtAt (w.alloc (.cells #[v0, v1, v2] 134)) base w.heap.size f) := Lib.hid ⟨v0, v1, v2, heap_alloc_new _ _, h0.ks hkA hbq, h1.ks hkA hbq, h1n, h2.ks hkA hbq, h2n⟩
  obtain ⟨a0, k0, rfl, _⟩ := h0.len
  obtain ⟨a1, k1, rfl⟩ := h1.len
  obtain ⟨a2, k2, rfl, _⟩ := h2.len
  clear hB hf h0 h1 h1n h2 h2n hkA
  go_enter Try.func108, Try.ntmps108
  go_wp2_with fail
  refine (lp3_flag (out := wcerts f) _ hw HB.out HF.out hl (enter_of Try.func146 (by kernel_rfl) (by kernel_rfl)) (em_146 _ HP.out hpq hbq hfit hcl hn)).mono ?_
  rintro e w2 ⟨rfl, hb2, hfr2⟩
  have HB2 := Lib.hid hb2
  have HFR2 := Lib.hid hfr2
  clear hb2 hfr2
  go_wp2_with fail
  go_end0
  exact ⟨rfl, HB2.out, ((Fr.refl _ _ _).alloc _).trans HFR2.out⟩

/-- What is right of the fields that are made. -/
structure C13Ok (f : C13) : Prop where
  fit : C13Fit f
  cl : ∀ c ∈ f.certs, c.length < 16777216
  n : f.certs.length ≤ 2147483647
  w : (wcerts f).length < 65536

/-- A certificateMsgTLS13 in block m. -/
def MsgAt (w : World) (base m : Nat) (f : C13) : Prop :=
  ∃ v0 v1 v2, w.heap[m]? = some (.cells #[v0, v1, v2, .bool (decide (f.staple ≠ [])), .bool (decide (f.stamps ≠ []))] 136 (0, 0)) ∧ SrcL w base v0 f.certs ∧ SrcB w base v1 f.staple ∧ (v1 = .slice none 0 0 ↔ f.staple = []) ∧ SrcL w base v2 f.stamps ∧ (v2 = .slice none 0 0 ↔ f.stamps = [])

theorem MsgAt.ks {w w' : World} {base q m : Nat} {f : C13} (h : MsgAt w base m f) (hk : Ks base q w w') (hq : base ≤ q) (hp : m ≠ q) : MsgAt w' base m f := by
  obtain ⟨v0, v1, v2, hh, h0, h1, h1n, h2, h2n⟩ := h
  exact ⟨v0, v1, v2, hk.other hh (by decide) hp, h0.ks hk hq, h1.ks hk hq, h1n, h2.ks hk hq, h2n⟩

set_option maxRecDepth 100000 in
set_option maxHeartbeats 2000000 in
theorem em_107 {base q x m : Nat} {f : C13} (w : World) (hok : C13Ok f) (hx : w.heap[x]? = some (.cells #[.pointer (some ⟨m, 0, none⟩)] 132 (0, 0))) (hm : MsgAt w base m f) (hxq : x ≠ q) (hmq : m ≠ q) (hbq : base ≤ q) :
    Emits base q 107 #[.pointer (some ⟨x, 0, none⟩)] (en 1 0 ++ en 3 (wcerts f).length ++ wcerts f) w := by
  intro c off pl bs w' hk hf hB hl
  have HX := Lib.hid (hk.other hx (by decide) hxq)
  have HM := Lib.hid (hm.ks hk hbq hmq)
  have HB := Lib.hid hB
  have HF := Lib.hid hf
  have hlen : bs.length + 1 + 3 + (wcerts f).length ≤ 70368744177664 := by simp [en_length] at hl; omega
  clear hk hf hB hx hm hl
  simp only [List.append_toArray, List.cons_append, List.nil_append]
  go_enter Try.func107, Try.ntmps107
  go_wp2_with fail
  refine (add8_ok 0 w' (by omega) (by omega) HB.out (by omega)).mono ?_
  rintro e w1 ⟨rfl, hb, hfr⟩
  have hK : Ks base q w' w1 := Ks.of_fr hfr (.inr HB.out.isBld)
  have HB1 : Hid (BAt w1 base c off pl (.pointer (some ⟨q, 0, none⟩)) (bs ++ en 1 0)) := hb
  have HFR1 := Lib.hid hfr
  have c0 := cell_head (hK.other HX.out (by decide) hxq)
  have hm1 := HM.out.ks hK hbq hmq
  have HF1 := Lib.hid (hfr.flag HF.out (HB.out.ne_flag HF.out))
  obtain ⟨v0, v1, v2, hh, h0, h1, h1n, h2, h2n⟩ := hm1
  obtain ⟨a0, k0, rfl, _⟩ := h0.len
  obtain ⟨a1, k1, rfl⟩ := h1.len
  obtain ⟨a2, k2, rfl, _⟩ := h2.len
  have m0 : w1.cell? ⟨m, 0, none⟩ = some (.slice a0 f.certs.length k0) := by rw [cell_of_heap hh]; rfl
  have m1 : w1.cell? ⟨m, 1, none⟩ = some (.slice a1 f.staple.length k1) := by rw [cell_of_heap hh]; rfl
  have m2 : w1.cell? ⟨m, 2, none⟩ = some (.slice a2 f.stamps.length k2) := by rw [cell_of_heap hh]; rfl
  have m3 : w1.cell? ⟨m, 3, none⟩ = some (.bool (decide (f.staple ≠ []))) := by rw [cell_of_heap hh]; rfl
  have m4 : w1.cell? ⟨m, 4, none⟩ = some (.bool (decide (f.stamps ≠ []))) := by rw [cell_of_heap hh]; rfl
  have hml := lt_of_heap hh
  have hmne : m ≠ w1.heap.size := by omega
  have hxl1 := World.block_lt_of_cell? w1 _ c0
  have HH := Lib.hid hh
  have hkA : ∀ u1 u2 : Value, Ks base q w1 (w1.alloc (.cells #[.slice a0 f.certs.length k0, u1, u2] 134)) := fun _ _ => (Ks.refl _ _ _).alloc _
  have HBA : Hid (∀ u1 u2 : Value, BAt (w1.alloc (.cells #[.slice a0 f.certs.length k0, u1, u2] 134)) base c off pl (.pointer (some ⟨q, 0, none⟩)) (bs ++ en 1 0)) := Lib.hid fun _ _ => HB1.out.alloc _
  have HFA : Hid (∀ u1 u2 : Value, Flag (w1.alloc (.cells #[.slice a0 f.certs.length k0, u1, u2] 134)) q true) := Lib.hid fun _ _ => heap_push HF1.out
  have HS : Hid (∀ u1 u2 : Value, SrcL (w1.alloc (.cells #[.slice a0 f.certs.length k0, u1, u2] 134)) base (.slice a0 f.certs.length k0) f.certs ∧ SrcB (w1.alloc (.cells #[.slice a0 f.certs.length k0, u1, u2] 134)) base (.slice a1 f.staple.length k1) f.staple ∧ SrcL (w1.alloc (.cells #[.slice a0 f.certs.length k0, u1, u2] 134)) base (.slice a2 f.stamps.length k2) f.stamps) :=
    Lib.hid fun u1 u2 => ⟨h0.ks (hkA u1 u2) hbq, h1.ks (hkA u1 u2) hbq, h2.ks (hkA u1 u2) hbq⟩
  have H1N := Lib.hid h1n
  have H2N := Lib.hid h2n
  have hlen2 : (bs ++ en 1 0).length + 3 + (wcerts f).length ≤ 70368744177664 := by simp [en_length]; omega
  have HL2 := Lib.hid hlen2
  obtain ⟨b3, hb3⟩ : ∃ b, b = decide (f.staple ≠ []) := ⟨_, rfl⟩
  obtain ⟨b4, hb4⟩ : ∃ b, b = decide (f.stamps ≠ []) := ⟨_, rfl⟩
  rw [← hb3] at m3
  rw [← hb4] at m4
  have g3 : b3 = false → (.slice a1 f.staple.length k1 : Value) = .slice none 0 0 := fun e => h1n.2 (by rw [e] at hb3; simpa using hb3.symm)
  have g4 : b4 = false → (.slice a2 f.stamps.length k2 : Value) = .slice none 0 0 := fun e => h2n.2 (by rw [e] at hb4; simpa using hb4.symm)
  clear hb hfr hK hh h0 h1 h1n h2 h2n hkA hlen2 hb3 hb4
  obtain ⟨e0, he0⟩ : ∃ e0 : List UInt8, e0 = en 1 0 := ⟨_, rfl⟩
  obtain ⟨n1, hn1⟩ : ∃ n, n = f.staple.length := ⟨_, rfl⟩
  obtain ⟨n2, hn2⟩ : ∃ n, n = f.stamps.length := ⟨_, rfl⟩
  rw [← hn1] at m1 g3 HS H1N
  rw [← hn2] at m2 g4 HS H2N
  have fin : ∀ w2 : World, BAt w2 base c off pl (.pointer (some ⟨q, 0, none⟩)) (bs ++ en 1 0 ++ en 3 (wcerts f).length ++ wcerts f) → BAt w2 base c off pl (.pointer (some ⟨q, 0, none⟩)) (bs ++ (en 1 0 ++ en 3 (wcerts f).length ++ wcerts f)) := fun w2 h => by simpa only [List.append_assoc] using h
  have FIN := Lib.hid fin
  clear fin he0 hn1 hn2
  have z3 : b3 = false ∨ b3 = true := by cases b3 <;> simp
  have z4 : b4 = false ∨ b4 = true := by cases b4 <;> simp
  rcases z3 with rfl | rfl
  · have e1 := g3 rfl
    simp only [Value.slice.injEq] at e1
    obtain ⟨rfl, rfl, rfl⟩ := e1
    clear g3
    rcases z4 with rfl | rfl
    · have e2 := g4 rfl
      simp only [Value.slice.injEq] at e2
      obtain ⟨rfl, rfl, rfl⟩ := e2
      clear g4
      go_wp2_with fail
      refine (mc_ok _ hok.fit hok.cl hok.n (by have := hok.w; omega) (HBA.out _ _) (HFA.out _ _) hbq HL2.out (HS.out _ _).1 (HS.out _ _).2.1 (by simpa using H1N.out) (HS.out _ _).2.2 (by simpa using H2N.out)).mono ?_
      rintro e w2 ⟨rfl, hb2, hfr2⟩
      have HB2 := Lib.hid hb2
      have HFR2 := Lib.hid hfr2
      clear hb2 hfr2
      go_wp2_with fail
      go_end0
      exact ⟨rfl, FIN.out _ HB2.out, (HFR1.out.alloc _).trans HFR2.out⟩
    · clear g4
      go_wp2_with fail
      refine (mc_ok _ hok.fit hok.cl hok.n (by have := hok.w; omega) (HBA.out _ _) (HFA.out _ _) hbq HL2.out (HS.out _ _).1 (HS.out _ _).2.1 (by simpa using H1N.out) (HS.out _ _).2.2 (by simpa using H2N.out)).mono ?_
      rintro e w2 ⟨rfl, hb2, hfr2⟩
      have HB2 := Lib.hid hb2
      have HFR2 := Lib.hid hfr2
      clear hb2 hfr2
      go_wp2_with fail
      go_end0
      exact ⟨rfl, FIN.out _ HB2.out, (HFR1.out.alloc _).trans HFR2.out⟩
  · clear g3
    rcases z4 with rfl | rfl
    · have e2 := g4 rfl
      simp only [Value.slice.injEq] at e2
      obtain ⟨rfl, rfl, rfl⟩ := e2
      clear g4
      go_wp2_with fail
      refine (mc_ok _ hok.fit hok.cl hok.n (by have := hok.w; omega) (HBA.out _ _) (HFA.out _ _) hbq HL2.out (HS.out _ _).1 (HS.out _ _).2.1 (by simpa using H1N.out) (HS.out _ _).2.2 (by simpa using H2N.out)).mono ?_
      rintro e w2 ⟨rfl, hb2, hfr2⟩
      have HB2 := Lib.hid hb2
      have HFR2 := Lib.hid hfr2
      clear hb2 hfr2
      go_wp2_with fail
      go_end0
      exact ⟨rfl, FIN.out _ HB2.out, (HFR1.out.alloc _).trans HFR2.out⟩
    · clear g4
      go_wp2_with fail
      refine (mc_ok _ hok.fit hok.cl hok.n (by have := hok.w; omega) (HBA.out _ _) (HFA.out _ _) hbq HL2.out (HS.out _ _).1 (HS.out _ _).2.1 (by simpa using H1N.out) (HS.out _ _).2.2 (by simpa using H2N.out)).mono ?_
      rintro e w2 ⟨rfl, hb2, hfr2⟩
      have HB2 := Lib.hid hb2
      have HFR2 := Lib.hid hfr2
      clear hb2 hfr2
      go_wp2_with fail
      go_end0
      exact ⟨rfl, FIN.out _ HB2.out, (HFR1.out.alloc _).trans HFR2.out⟩

end Go.Proofs.Ytopcljikkdlffaa
