/- A Certificate of TLS 1.3 is made by package tls. No statement of the seat is proved here. -/
import Derived.Test.YtopcljikkdlffaaCl
namespace Go.Proofs.Ytopcljikkdlffaa
open Go.RowKit

set_option maxRecDepth 100000 in
set_option maxHeartbeats 400000 in
theorem em_151 {base q p : Nat} {f : C13} (w : World) (hp : CrtAt w base p f) (hpq : p ≠ q) (hbq : base ≤ q) (hst : ∀ x ∈ f.stamps, x.length < 65536) (hn : f.stamps.length ≤ 4294967296) (hv : (vecs 2 f.stamps).length < 65536) :
    Emits base q 151 #[.pointer (some ⟨p, 0, none⟩)] (en 2 (vecs 2 f.stamps).length ++ vecs 2 f.stamps) w := by
  intro c off pl bs w' hk hf hB hl
  have HP := Lib.hid (hp.ks hk hbq hpq)
  have HB := Lib.hid hB
  have HF := Lib.hid hf
  have hlen : bs.length + 2 + (vecs 2 f.stamps).length ≤ 70368744177664 := by simp [en_length] at hl; omega
  clear hk hf hB hp hl
  simp only [List.append_toArray, List.cons_append, List.nil_append]
  go_enter Try.func151, Try.ntmps151
  go_wp2_with fail
  refine (lp2_flag (out := vecs 2 f.stamps) w' hv HB.out HF.out hlen (enter_of Try.func152 (by kernel_rfl) (by kernel_rfl)) (em_152 w' HP.out hpq hbq hst hn)).mono ?_
  rintro e w2 ⟨rfl, hb2, hfr2⟩
  have HB2 := Lib.hid hb2
  have HFR2 := Lib.hid hfr2
  clear hb2 hfr2
  go_wp2_with fail
  go_end0
  exact ⟨rfl, by simpa only [List.append_assoc] using HB2.out, HFR2.out⟩

/-- What is right of the fields that are made: their lengths. -/
def C13Fit (f : C13) : Prop := (∀ x ∈ f.stamps, x.length < 65536) ∧ f.stamps.length ≤ 4294967296 ∧ (vecs 2 f.stamps).length + 6 + (8 + f.staple.length) < 65536

/-- The extensions of certificate number n. -/
def wext (f : C13) (n : Nat) : List UInt8 := if n = 0 then w5 f.staple ++ w18 f.stamps else []

set_option maxRecDepth 100000 in
set_option maxHeartbeats 2000000 in
theorem em_148 {base q p ib n : Nat} {f : C13} (w : World) (hp : CrtAt w base p f) (hpq : p ≠ q) (hbq : base ≤ q) (hfit : C13Fit f) (hi : w.heap[ib]? = some (.cells #[.int .i64 (n : Nat)] 3 (0, 0))) (hiq : ib ≠ q) :
    Emits base q 148 #[.pointer (some ⟨ib, 0, none⟩), .pointer (some ⟨p, 0, none⟩)] (wext f n) w := by
  intro c off pl bs w' hk hf hB hl
  have hp' := hp.ks hk hbq hpq
  have HP := Lib.hid hp'
  have ci := cell_head (hk.other hi (by decide) hiq)
  obtain ⟨v0, v1, v2, hh, _, h1, h1n, h2, h2n⟩ := hp'
  have c1 : w'.cell? ⟨p, 1, none⟩ = some v1 := by rw [cell_of_heap hh]; rfl
  have c2 : w'.cell? ⟨p, 2, none⟩ = some v2 := by rw [cell_of_heap hh]; rfl
  obtain ⟨a1, k1, rfl⟩ := h1.len
  obtain ⟨a2, k2, rfl, _, hz2⟩ := h2.len
  have HB := Lib.hid hB
  have HF := Lib.hid hf
  obtain ⟨hf1, hf2, hf3⟩ := hfit
  by_cases hn : n = 0
  · subst hn
    have e0 : wext f 0 = w5 f.staple ++ w18 f.stamps := by unfold wext; rw [if_pos rfl]
    rw [e0] at hl ⊢
    have h5l := w5_len f.staple
    have h18l := w18_len f.stamps
    have hlen : bs.length + ((w5 f.staple).length + (w18 f.stamps).length) ≤ 70368744177664 := by simpa using hl
    have H5L := Lib.hid h5l
    have H18L := Lib.hid h18l
    -- the part of the timestamps, from a world where the staple was written
    have tail : ∀ (b1 : List UInt8) (w1 : World) (a : Act), BAt w1 base c off pl (.pointer (some ⟨q, 0, none⟩)) b1 → True := fun _ _ _ _ => trivial
    have hz1 : a1.isNone = true ↔ f.staple = [] := by
      rw [← h1n]
      cases a1 with
      | none => 
        rcases h1 with ⟨e, _⟩ | ⟨ad, cp, e, _⟩
        · simp [e]
        · cases e
      | some x => simp
    have hz2' : a2.isNone = true ↔ f.stamps = [] := by rw [← h2n, ← hz2]
    have HZ1 := Lib.hid hz1
    have HZ2 := Lib.hid hz2'
    have he5 : ∀ (wx : World), BAt wx base c off pl (.pointer (some ⟨q, 0, none⟩)) (bs ++ en 2 5) → CrtAt wx base p f → Flag wx q true → f.staple ≠ [] →
        Calls Try.prog 114 #[.pointer (some ⟨c, 0, none⟩), .func (.func 149) #[] #[.pointer (some ⟨p, 0, none⟩)]] wx fun e w2 => e = .returned (.tuple #[]) ∧
          BAt w2 base c off pl (.pointer (some ⟨q, 0, none⟩)) (bs ++ w5 f.staple) ∧ Fr base c wx w2 := by
      intro wx hb hpx hfx hne
      have hl5 := H5L.out.2 hne
      have ho : (en 1 1 ++ en 3 f.staple.length ++ f.staple).length = 1 + (3 + f.staple.length) := by simp [en_length] <;> omega
      refine (lp2_flag (out := en 1 1 ++ en 3 f.staple.length ++ f.staple) wx (by rw [ho]; omega) hb hfx (by rw [ho]; simp [en_length]; omega) (enter_of Try.func149 (by kernel_rfl) (by kernel_rfl)) (em_149 wx hpx hpq hbq (by omega))).mono ?_
      rintro e w2 ⟨rfl, hb2, hfr2⟩
      refine ⟨rfl, ?_, hfr2⟩
      have e5 : bs ++ w5 f.staple = bs ++ en 2 5 ++ en 2 (en 1 1 ++ en 3 f.staple.length ++ f.staple).length ++ (en 1 1 ++ en 3 f.staple.length ++ f.staple) := by
        unfold w5; rw [if_neg hne, ho]; simp only [List.append_assoc]
      rw [e5]; exact hb2
    have he18 : ∀ (b0 : List UInt8) (wx : World), b0.length + (w18 f.stamps).length ≤ 70368744177664 → BAt wx base c off pl (.pointer (some ⟨q, 0, none⟩)) (b0 ++ en 2 18) → CrtAt wx base p f → Flag wx q true → f.stamps ≠ [] →
        Calls Try.prog 114 #[.pointer (some ⟨c, 0, none⟩), .func (.func 151) #[] #[.pointer (some ⟨p, 0, none⟩)]] wx fun e w2 => e = .returned (.tuple #[]) ∧
          BAt w2 base c off pl (.pointer (some ⟨q, 0, none⟩)) (b0 ++ w18 f.stamps) ∧ Fr base c wx w2 := by
      intro b0 wx hb0 hb hpx hfx hne
      have hl18 := H18L.out.2 hne
      have ho : (en 2 (vecs 2 f.stamps).length ++ vecs 2 f.stamps).length = 2 + (vecs 2 f.stamps).length := by simp [en_length]
      refine (lp2_flag (out := en 2 (vecs 2 f.stamps).length ++ vecs 2 f.stamps) wx (by rw [ho]; omega) hb hfx (by rw [ho]; simp [en_length]; omega) (enter_of Try.func151 (by kernel_rfl) (by kernel_rfl)) (em_151 wx hpx hpq hbq hf1 hf2 (by omega))).mono ?_
      rintro e w2 ⟨rfl, hb2, hfr2⟩
      refine ⟨rfl, ?_, hfr2⟩
      have e5 : b0 ++ w18 f.stamps = b0 ++ en 2 18 ++ en 2 (en 2 (vecs 2 f.stamps).length ++ vecs 2 f.stamps).length ++ (en 2 (vecs 2 f.stamps).length ++ vecs 2 f.stamps) := by
        unfold w18; rw [if_neg hne, ho]; simp only [List.append_assoc]
      rw [e5]; exact hb2
    have HE5 := Lib.hid he5
    have HE18 := Lib.hid he18
    obtain ⟨s5, hs5⟩ : ∃ s, s = w5 f.staple := ⟨_, rfl⟩
    obtain ⟨s18, hs18⟩ : ∃ s, s = w18 f.stamps := ⟨_, rfl⟩
    have HS5 := Lib.hid hs5
    have HS18 := Lib.hid hs18
    rw [← hs5, ← hs18] at hlen ⊢
    have hg5 : f.staple ≠ [] → 8 ≤ s5.length := fun h => by rw [hs5, h5l.2 h]; omega
    have hg18 : f.stamps ≠ [] → 6 ≤ s18.length := fun h => by rw [hs18, h18l.2 h]; omega
    have hn5 : f.staple = [] → s5 = [] := fun h => by rw [hs5]; unfold w5; rw [if_pos h]
    have hn18 : f.stamps = [] → s18 = [] := fun h => by rw [hs18]; unfold w18; rw [if_pos h]
    have HG5 := Lib.hid hg5
    have HG18 := Lib.hid hg18
    have HN5 := Lib.hid hn5
    have HN18 := Lib.hid hn18
    have HH := Lib.hid hh
    clear hk hf hB hp hl h1 h1n h2 h2n hz2 hh h5l h18l tail hz1 hz2' he5 he18 hs5 hs18 hg5 hg18 hn5 hn18 hf1 hf2 hi e0
    simp only [List.append_toArray, List.cons_append, List.nil_append]
    by_cases g5 : f.staple = []
    · have hsz := HN5.out g5
      subst hsz
      have hn1 := HZ1.out.2 g5
      obtain rfl : a1 = none := by cases a1 <;> simp at hn1 ⊢
      clear hn1 g5
      by_cases g18 : f.stamps = []
      · have hsz := HN18.out g18
        subst hsz
        have hn1 := HZ2.out.2 g18
        obtain rfl : a2 = none := by cases a2 <;> simp at hn1 ⊢
        clear hn1 g18
        go_enter Try.func148, Try.ntmps148
        go_wp2_with fail
        go_end0
        exact ⟨rfl, by simpa using HB.out, Fr.refl _ _ _⟩
      · have G18 := Lib.hid g18
        obtain ⟨x2, rfl⟩ : ∃ x, a2 = some x := by
          cases h : a2 with
          | none => exact absurd (HZ2.out.1 (by rw [h]; rfl)) g18
          | some x => exact ⟨x, rfl⟩
        have h6 := HG18.out g18
        clear g18
        go_enter Try.func148, Try.ntmps148
        go_wp2_with fail
        refine (add16_ok 18 w' (by omega) (by omega) HB.out (by omega)).mono ?_
        rintro e w1 ⟨rfl, hb, hfr⟩
        have hK : Ks base q w' w1 := Ks.of_fr hfr (.inr HB.out.isBld)
        have HB1 : Hid (BAt w1 base c off pl (.pointer (some ⟨q, 0, none⟩)) (bs ++ en 2 18)) := hb
        have HFR1 := Lib.hid hfr
        have HP1 := Lib.hid (HP.out.ks hK hbq hpq)
        have HF1 := Lib.hid (hfr.flag HF.out (HB.out.ne_flag HF.out))
        clear hb hfr hK
        go_wp2_with fail
        refine (HE18.out bs w1 (by rw [← HS18.out]; omega) HB1.out HP1.out HF1.out G18.out).mono ?_
        rintro e w2 ⟨rfl, hb2, hfr2⟩
        have HB2 := Lib.hid hb2
        have HFR2 := Lib.hid hfr2
        clear hb2 hfr2
        go_wp2_with fail
        go_end0
        exact ⟨rfl, by rw [HS18.out]; simpa using HB2.out, HFR1.out.trans HFR2.out⟩
    · have G5 := Lib.hid g5
      obtain ⟨x1, rfl⟩ : ∃ x, a1 = some x := by
        cases h : a1 with
        | none => exact absurd (HZ1.out.1 (by rw [h]; rfl)) g5
        | some x => exact ⟨x, rfl⟩
      have h8 := HG5.out g5
      clear g5
      go_enter Try.func148, Try.ntmps148
      go_wp2_with fail
      refine (add16_ok 5 w' (by omega) (by omega) HB.out (by omega)).mono ?_
      rintro e w1 ⟨rfl, hb, hfr⟩
      have hK : Ks base q w' w1 := Ks.of_fr hfr (.inr HB.out.isBld)
      have HB1 : Hid (BAt w1 base c off pl (.pointer (some ⟨q, 0, none⟩)) (bs ++ en 2 5)) := hb
      have HFR1 := Lib.hid hfr
      have HP1 := Lib.hid (HP.out.ks hK hbq hpq)
      have HF1 := Lib.hid (hfr.flag HF.out (HB.out.ne_flag HF.out))
      clear hb hfr hK
      go_wp2_with fail
      refine (HE5.out w1 HB1.out HP1.out HF1.out G5.out).mono ?_
      rintro e w2 ⟨rfl, hb2, hfr2⟩
      rw [← HS5.out] at hb2
      have hK : Ks base q w1 w2 := Ks.of_fr hfr2 (.inr HB1.out.isBld)
      have hp2 := HP1.out.ks hK hbq hpq
      have HB2 := Lib.hid hb2
      have HFR2 := Lib.hid (HFR1.out.trans hfr2)
      have HP2 := Lib.hid hp2
      have HF2 := Lib.hid (hfr2.flag HF1.out (HB1.out.ne_flag HF1.out))
      have c2' : w2.cell? ⟨p, 2, none⟩ = some (.slice a2 f.stamps.length k2) := by
        have e1 := hK.other ((Ks.of_fr HFR1.out (.inr HB.out.isBld) : Ks base q w' w1).other HH.out (by decide) hpq) (by decide) hpq
        rw [cell_of_heap e1]; rfl
      clear hb2 hfr2 hK hp2 c1 c2 ci
      by_cases g18 : f.stamps = []
      · have hsz := HN18.out g18
        subst hsz
        have hn1 := HZ2.out.2 g18
        obtain rfl : a2 = none := by cases a2 <;> simp at hn1 ⊢
        clear hn1 g18
        go_wp2_with fail
        go_end0
        exact ⟨rfl, by simpa using HB2.out, HFR2.out⟩
      · have G18 := Lib.hid g18
        obtain ⟨x2, rfl⟩ : ∃ x, a2 = some x := by
          cases h : a2 with
          | none => exact absurd (HZ2.out.1 (by rw [h]; rfl)) g18
          | some x => exact ⟨x, rfl⟩
        have h6 := HG18.out g18
        clear g18
        go_wp2_with fail
        refine (add16_ok 18 w2 (by omega) (by omega) HB2.out (by simp; omega)).mono ?_
        rintro e w3 ⟨rfl, hb, hfr⟩
        have hK : Ks base q w2 w3 := Ks.of_fr hfr (.inr HB2.out.isBld)
        have HB3 : Hid (BAt w3 base c off pl (.pointer (some ⟨q, 0, none⟩)) (bs ++ s5 ++ en 2 18)) := hb
        have HFR3 := Lib.hid (HFR2.out.trans hfr)
        have HP3 := Lib.hid (HP2.out.ks hK hbq hpq)
        have HF3 := Lib.hid (hfr.flag HF2.out (HB2.out.ne_flag HF2.out))
        clear hb hfr hK
        go_wp2_with fail
        refine (HE18.out (bs ++ s5) w3 (by rw [← HS18.out]; simp; omega) HB3.out HP3.out HF3.out G18.out).mono ?_
        rintro e w4 ⟨rfl, hb2, hfr2⟩
        have HB4 := Lib.hid hb2
        have HFR4 := Lib.hid (HFR3.out.trans hfr2)
        clear hb2 hfr2
        go_wp2_with fail
        go_end0
        exact ⟨rfl, by rw [HS18.out]; simpa only [List.append_assoc] using HB4.out, HFR4.out⟩
  · have e0 : wext f n = [] := by unfold wext; rw [if_neg hn]
    rw [e0]
    have hn1 : ((n : Nat) : Int) > 0 := by omega
    have hn2 : (0 : Int) < ((n : Nat) : Int) := by omega
    clear hk hf hB hp hl h1 h1n h2 h2n hz2 hh hf1 hf2 hi e0 hn
    simp only [List.append_toArray, List.cons_append, List.nil_append]
    go_enter Try.func148, Try.ntmps148
    go_wp2_with fail
    exact bodyPost_ret (results_none rfl _ _ _) rfl ⟨rfl, by simpa using HB.out, Fr.refl _ _ _⟩

end Go.Proofs.Ytopcljikkdlffaa
