/- The plain law of FnServerHelloRange: what the reference finds out of its range, package tls refuses. No program and no memory stand here. -/
import Derived.Test.YtopcljikkdlffaaSi
namespace Go.Proofs.Ytopcljikkdlffaa

theorem body2_ok {s3 : Nat × (Nat × List UInt8)} (h : (rbody2 s3).1 = 0) : s3.2.1 = 0 ∧ rbody2 s3 = s3.2 := by
  unfold rbody2 at h ⊢
  by_cases hc : s3.1 = s3.2.2.length
  · rw [if_pos hc] at h ⊢; exact ⟨h, rfl⟩
  · rw [if_neg hc] at h; exact absurd h (rfail_ne (by decide))

theorem body_rd {kind : Nat} {bs : List UInt8} (h : (rbody0 kind bs).1 = 0) : ∃ a1, rd 4 bs = some (a1, (rbody0 kind bs).2) := by
  by_cases hl : bs.length < 4
  · unfold rbody0 at h; rw [if_pos hl] at h; cases h
  · have e0 : rbody0 kind bs = rbody kind bs := by unfold rbody0; rw [if_neg hl]
    rw [e0] at h ⊢
    obtain ⟨s1, hs1⟩ : ∃ s, s = (if (rnum 1 ((0 : Nat), bs)).1 = kind then (rnum 1 ((0 : Nat), bs)).2 else rfail 1 (rnum 1 ((0 : Nat), bs)).2) := ⟨_, rfl⟩
    have e1 : rbody kind bs = rbody2 (rnum 3 s1) := by rw [hs1]; rfl
    rw [e1] at h ⊢
    obtain ⟨h3, e3⟩ := body2_ok h
    rw [e3]
    obtain ⟨g2, a0, g3, _⟩ := rnum_ok0 h3
    by_cases hk : (rnum 1 ((0 : Nat), bs)).1 = kind
    · rw [if_pos hk] at hs1
      rw [hs1] at g2 g3 ⊢
      obtain ⟨_, a00, g5, _⟩ := rnum_ok0 g2
      have k1 := rd_some g5
      have k2 := rd_some g3
      simp only at k1
      refine ⟨a00 ++ a0, ?_⟩
      have e : bs = (a00 ++ a0) ++ (rnum 3 (rnum 1 (0, bs)).2).2.2 := by rw [List.append_assoc, ← k2.1, ← k1.1]
      have e2 : (a00 ++ a0).length = 4 := by simp [k1.2, k2.2]
      have h5 := rd_append (a00 ++ a0) (rnum 3 (rnum 1 (0, bs)).2).2.2
      rw [← e, e2] at h5
      exact h5
    · rw [if_neg hk] at hs1
      rw [hs1] at g2
      exact absurd g2 (rfail_ne (by decide))

theorem fine_body {kind : Nat} {bs : List UInt8} : fine (rbody0 kind bs).1 := by
  have f1 : ∀ k : Nat, k ≠ 2 → ∀ st : Nat × List UInt8, fine st.1 → fine (rfail k st).1 := fun k hk st h => fine_rfail h hk
  have f0 : fine ((0 : Nat), bs).1 := show (0 : Nat) ≠ 2 by decide
  by_cases hl : bs.length < 4
  · unfold rbody0; rw [if_pos hl]; show (1 : Nat) ≠ 2; decide
  · have e0 : rbody0 kind bs = rbody kind bs := by unfold rbody0; rw [if_neg hl]
    rw [e0]
    obtain ⟨s1, hs1⟩ : ∃ s, s = (if (rnum 1 ((0 : Nat), bs)).1 = kind then (rnum 1 ((0 : Nat), bs)).2 else rfail 1 (rnum 1 ((0 : Nat), bs)).2) := ⟨_, rfl⟩
    have e1 : rbody kind bs = rbody2 (rnum 3 s1) := by rw [hs1]; rfl
    have fs1 : fine s1.1 := by
      rw [hs1]
      by_cases hk : (rnum 1 ((0 : Nat), bs)).1 = kind
      · rw [if_pos hk]; exact fine_rnum f0
      · rw [if_neg hk]; exact f1 1 (by decide) _ (fine_rnum f0)
    rw [e1]
    unfold rbody2
    by_cases hc : (rnum 3 s1).1 = (rnum 3 s1).2.2.length
    · rw [if_pos hc]; exact fine_rnum fs1
    · rw [if_neg hc]; exact f1 1 (by decide) _ (fine_rnum fs1)

set_option maxHeartbeats 4000000 in
/-- The head is as package tls reads it. -/
theorem head_ok {bs : List UInt8} (h : (rshHead bs).1 = 0) : ∃ f, shHead bs = some (f, (rshHead bs).2) := by
  unfold rshHead at h ⊢
  obtain ⟨h6, a6, e6, _⟩ := rnum_ok0 h
  obtain ⟨h5, a5, e5, _⟩ := rnum_ok0 h6
  obtain ⟨s3, hs3⟩ : ∃ s, s = (rnum 32 (rnum 2 (rbody0 2 bs)).2).2 := ⟨_, rfl⟩
  rw [← hs3] at h5 e5 e6 ⊢
  have hse : rsess s3 = (rvec 1 0 255 s3).2 := by
    unfold rsess at h5 ⊢
    split at h5
    · exact absurd h5 (rfail_ne (by decide))
    · rename_i hc; rw [if_neg hc]
  rw [hse] at h5 e5 e6 ⊢
  obtain ⟨h4, e4⟩ := rvec_ok0 h5
  rw [hs3] at h4 e4
  obtain ⟨h3, a3, e3, _⟩ := rnum_ok0 h4
  obtain ⟨h2, a2, e2, _⟩ := rnum_ok0 h3
  have hb := body_rd h2
  obtain ⟨a1, e1⟩ := hb
  refine ⟨{ vers := be a2, random := a3, session := (rvec 1 0 255 s3).1, cipher := be a5, comp := be a6 }, ?_⟩
  have e4' : rdv 1 (rnum 32 (rnum 2 (rbody0 2 bs)).2).2.2 = some ((rvec 1 0 255 s3).1, (rvec 1 0 255 s3).2.2) := by rw [hs3]; exact e4
  simp only [shHead, e1, e2, e3, e4', e5, e6, Option.bind_some, Option.map_some]

theorem fine_rsess {st : Nat × List UInt8} (h : fine st.1) : fine (rsess st).1 := by
  have h3 := fine_rvec (k := 1) (high := 255) h (by decide)
  unfold rsess
  by_cases hc : (rvec 1 0 255 st).2.1 = 0 ∧ 32 < (rvec 1 0 255 st).1.length
  · rw [if_pos hc]; exact fine_rfail h3 (show (1 : Nat) ≠ 2 by decide)
  · rw [if_neg hc]; exact h3

theorem fine_head {bs : List UInt8} : fine (rshHead bs).1 := by
  unfold rshHead
  exact fine_rnum (fine_rnum (fine_rsess (fine_rnum (fine_rnum fine_body))))

theorem rend_ok0 {p : Nat × List UInt8} (h : (rend p).1 = 0) : p = (0, []) := by
  unfold rend at h
  by_cases hz : p.2 = []
  · rw [if_pos hz] at h; exact Prod.ext h hz
  · rw [if_neg hz] at h; exact absurd h (rfail_ne (by decide))

theorem rdone_ok0 {st p : Nat × List UInt8} (h : (rdone st p).1 = 0) : st.1 = 0 ∧ rdone st p = st ∧ p = (0, []) := by
  unfold rdone at h ⊢
  by_cases hz : (rend p).1 = 0
  · rw [if_pos hz] at h ⊢; exact ⟨h, rfl, rend_ok0 hz⟩
  · rw [if_neg hz] at h; exact absurd h (rfail_ne hz)

theorem rext_ok0 {r : List UInt8} (h : (rextensions (0, r)).2.1 = 0) : ∃ x rr, rdv 2 r = some (x, rr) ∧ (rextensions (0, r)).2 = (0, rr) ∧ (rexts x.length [] (0, x)).2 = (0, []) ∧ (rextensions (0, r)).1 = (rexts x.length [] (0, x)).1 := by
  obtain ⟨v, hv⟩ : ∃ v, v = rvec 2 0 65535 (0, r) := ⟨_, rfl⟩
  have e : rextensions (0, r) = ((rexts v.1.length [] (rin v.2 v.1)).1, rdone v.2 (rexts v.1.length [] (rin v.2 v.1)).2) := by rw [hv]; rfl
  rw [e] at h ⊢
  obtain ⟨h1, h2, h3⟩ := rdone_ok0 h
  have hr := rvec_ok0 (k := 2) (low := 0) (high := 65535) (st := (0, r)) (by rw [← hv]; exact h1)
  rw [← hv] at hr
  have hin : rin v.2 v.1 = (0, v.1) := by unfold rin; rw [h1]; rfl
  rw [hin] at h3 ⊢
  refine ⟨v.1, v.2.2, hr.2, ?_, h3, rfl⟩
  rw [hin] at h2
  simp only
  rw [h2]
  exact Prod.ext h1 rfl

/-- The plain law. -/
theorem sh_range {bs : List UInt8} (h : RshEnd bs 2) : shRead bs = none := by
  rcases h with ⟨_, h⟩ | ⟨h0, hne, hx⟩
  · exact absurd h.symm fine_head
  · obtain ⟨f, hf⟩ := head_ok h0
    obtain ⟨H, hH⟩ : ∃ H, H = rshHead bs := ⟨_, rfl⟩
    rw [← hH] at h0 hf hne hx
    obtain ⟨c6, r6⟩ := H
    simp only at h0 hf hne
    subst h0
    have hfe : fine (rend (rextensions (0, r6)).2).1 := fine_rend (st := (rextensions ((0 : Nat), r6)).2) (fine_rextensions (st := ((0 : Nat), r6)) (show (0 : Nat) ≠ 2 by decide))
    obtain ⟨X, hX⟩ : ∃ X, X = rextensions (0, r6) := ⟨_, rfl⟩
    rw [← hX] at hx hfe
    obtain ⟨st', hR, h2⟩ := hx
    by_cases hc : (rend X.2).1 = 0
    · have hx0 := rend_ok0 hc
      obtain ⟨x, rr, g1, g2, g3, g4⟩ := rext_ok0 (r := r6) (by rw [← hX, hx0])
      rw [← hX] at g2 g4
      have hrr : rr = [] := by rw [hx0] at g2; exact (Prod.mk.inj g2).2.symm
      have est : rend X.2 = (0, (rend X.2).2) := Prod.ext hc rfl
      rw [est] at hR
      obtain ⟨e, he, b, hb⟩ := RLoop_range hR h2.symm
      obtain ⟨L, hL, hS⟩ := rexts_spl g3 (Nat.le_refl _)
      rw [g4, hL, List.nil_append] at he
      unfold shRead
      rw [hf, Option.bind_some]
      simp only
      rw [if_neg hne, g1, Option.bind_some]
      simp only
      rw [if_pos hrr]
      exact shExts_none _ _ _ hS ⟨e, he, fun f => ext_range hb f⟩
    · have := RLoop_code hR hc
      exact absurd (by rw [← this]; exact h2.symm) hfe

end Go.Proofs.Ytopcljikkdlffaa
