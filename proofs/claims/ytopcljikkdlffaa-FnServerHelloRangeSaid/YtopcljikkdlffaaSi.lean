/- The plain law: a ServerHello in which the reference finds a length out of its range is refused by package tls. No program and no memory stand here. -/
import Derived.Test.YtopcljikkdlffaaSf
import Derived.Test.YtopcljikkdlffaaSr
namespace Go.Proofs.Ytopcljikkdlffaa

theorem rfail_code {k : Nat} {st : Nat × List UInt8} (h : st.1 ≠ 0) : (rfail k st).1 = st.1 := by unfold rfail; simp [h]
theorem rfail_ne {k : Nat} {st : Nat × List UInt8} (hk : k ≠ 0) : (rfail k st).1 ≠ 0 := by unfold rfail; simp only; split <;> assumption

theorem rnum_ok0 {k : Nat} {st : Nat × List UInt8} (h : (rnum k st).2.1 = 0) : st.1 = 0 ∧ ∃ a, rd k st.2 = some (a, (rnum k st).2.2) ∧ be a = (rnum k st).1 := by
  unfold rnum at h ⊢
  split at h
  · exact absurd h (rfail_ne (by decide))
  · rename_i hl
    rw [if_neg hl]
    exact ⟨h, st.2.take k, by unfold rd; rw [if_pos (by omega)], rfl⟩

theorem rnum_bad {k : Nat} {st : Nat × List UInt8} (h : (rnum k st).2.1 ≠ 0) (h0 : st.1 = 0) : (rnum k st).2 = (3, []) := by
  unfold rnum at h ⊢
  split at h
  · rename_i hl
    rw [if_pos hl]
    unfold rfail; simp [h0]
  · exact absurd h0 h

theorem rvec_ok0 {k low high : Nat} {st : Nat × List UInt8} (h : (rvec k low high st).2.1 = 0) : st.1 = 0 ∧ rdv k st.2 = some ((rvec k low high st).1, (rvec k low high st).2.2) := by
  unfold rvec at h ⊢
  split at h
  · rename_i hn; exact absurd h hn
  · rename_i hn
    have hn' : (rnum k st).2.1 = 0 := Decidable.of_not_not hn
    obtain ⟨h0, a, ha, hb⟩ := rnum_ok0 hn'
    split at h
    · cases h
    · rename_i hl
      split at h
      · cases h
      · rename_i hr
        rw [if_neg hn, if_neg hl, if_neg hr]
        refine ⟨h0, ?_⟩
        unfold rdv
        rw [ha]
        simp only
        unfold rd
        rw [hb, if_pos (by omega)]

theorem rvec_range {k low high : Nat} {st : Nat × List UInt8} (h : (rvec k low high st).2.1 = 2) (h0 : st.1 = 0) : ∃ x r, rdv k st.2 = some (x, r) ∧ (x.length < low ∨ high < x.length) := by
  unfold rvec at h
  split at h
  · rename_i hn
    rw [rnum_bad hn h0] at h
    cases h
  · rename_i hn
    have hn' : (rnum k st).2.1 = 0 := Decidable.of_not_not hn
    obtain ⟨_, a, ha, hb⟩ := rnum_ok0 hn'
    split at h
    · cases h
    · rename_i hl
      split at h
      · rename_i hr
        refine ⟨(rnum k st).2.2.take (rnum k st).1, (rnum k st).2.2.drop (rnum k st).1, ?_, ?_⟩
        · unfold rdv
          rw [ha]
          simp only
          unfold rd
          rw [hb, if_pos (by omega)]
        · rw [List.length_take, Nat.min_eq_left (by omega)]; exact hr
      · cases h

theorem rvec_rest0 {k low high : Nat} {st : Nat × List UInt8} (h : (rvec k low high st).2.1 ≠ 0) (h0 : st.1 = 0) : (rvec k low high st).2.2 = [] := by
  unfold rvec at h ⊢
  split
  · rename_i hn; rw [rnum_bad hn h0]
  · split
    · rfl
    · split
      · rfl
      · rename_i h1 h2 h3
        rw [if_neg h1, if_neg h2, if_neg h3] at h
        exact absurd rfl h

/-- A short vector of the shortest length. -/
theorem rdv_high {k : Nat} {s x r : List UInt8} (h : rdv k s = some (x, r)) : x.length < 256 ^ k := (rdv_some h).2

theorem rend_range {st : Nat × List UInt8} (h : (rend st).1 = 2) : st.1 = 2 := by
  unfold rend at h
  split at h
  · exact h
  · by_cases h0 : st.1 = 0
    · unfold rfail at h; simp [h0] at h
    · rwa [rfail_code h0] at h

theorem rdone_code {st p : Nat × List UInt8} (h : st.1 ≠ 0) : (rdone st p).1 = st.1 := by
  unfold rdone
  split
  · rfl
  · exact rfail_code h

theorem rdone_range {st p : Nat × List UInt8} (h : (rdone st p).1 = 2) (h0 : st.1 = 0) : p.1 = 2 := by
  unfold rdone at h
  split at h
  · rw [h0] at h; cases h
  · unfold rfail at h
    simp only [h0, if_true] at h
    exact rend_range h

theorem rvecs_range {f : Nat} : ∀ {s : List UInt8}, (rvecs 2 1 f (0, s)).2.1 = 2 → s.length ≤ f → tvecs 2 f s = none := by
  induction f with
  | zero =>
    intro s h hl
    cases h
  | succ f ih =>
    intro s h hl
    unfold rvecs at h
    split at h
    · cases h
    · rename_i hs
      simp only at hs
      rw [tvecs_succ hs]
      by_cases hc : (rvec 2 1 65535 (0, s)).2.1 = 0
      · obtain ⟨_, hr⟩ := rvec_ok0 hc
        simp only at hr
        rw [hr, Option.bind_some]
        simp only
        split
        · rfl
        · have e : (rvec 2 1 (256 ^ 2 - 1) (0, s)).2 = (0, (rvec 2 1 65535 (0, s)).2.2) := by rw [show 256 ^ 2 - 1 = 65535 from rfl]; exact Prod.ext hc rfl
          rw [e] at h
          have hlt := rvec_rest (k := 2) (low := 1) (high := 65535) (st := (0, s)) (by omega) hs
          rw [ih h (by simp only at hlt; omega)]
          rfl
      · have he := rvec_rest0 hc rfl
        have h2 : (rvec 2 1 65535 (0, s)).2.1 = 2 := by
          have e : (rvec 2 1 (256 ^ 2 - 1) (0, s)).2 = ((rvec 2 1 65535 (0, s)).2.1, []) := Prod.ext rfl he
          rw [e] at h
          cases f with
          | zero => exact h
          | succ f => simp only [rvecs] at h; simpa using h
        obtain ⟨x, r, hr, hx⟩ := rvec_range h2 rfl
        have hh := rdv_high hr
        have hx0 : x = [] := List.length_eq_zero_iff.1 (by simp only at hr hh; omega)
        simp only at hr
        rw [hr, Option.bind_some]
        simp [hx0]

set_option maxHeartbeats 4000000 in
/-- An extension in which the reference finds a length out of its range. -/
theorem ext_range {ty : Nat} {b : Bool} {d : List UInt8} (h : (rend (rsext ty b (0, d))).1 = 2) (f : SH) : shExt f ty d = none := by
  replace h := rend_range h
  have fz : fine ((0 : Nat), d).1 := show (0 : Nat) ≠ 2 by decide
  unfold rsext at h
  by_cases h1 : ty = 5 ∨ ty = 35 ∨ ty = 23 ∨ ty = 0
  · rw [if_pos h1] at h; cases h
  rw [if_neg h1] at h
  by_cases h2 : ty = 65281
  · rw [if_pos h2] at h
    exact absurd h (fine_rvec (k := 1) (high := 255) fz (by decide))
  rw [if_neg h2] at h
  by_cases h3 : ty = 16
  · rw [if_pos h3] at h
    subst h3
    simp only [shExt, show ¬ (16 : Nat) = 5 by decide, show ¬ (16 : Nat) = 35 by decide, show ¬ (16 : Nat) = 65281 by decide, show ¬ (16 : Nat) = 23 by decide, if_false, if_true]
    unfold rprot at h
    simp only at h
    by_cases hc : (rvec 2 2 65535 (0, d)).2.1 = 0
    · obtain ⟨_, hr⟩ := rvec_ok0 hc
      simp only at hr
      rw [hr, Option.bind_some]
      simp only
      replace h := rdone_range h hc
      have e : rin (rvec 2 2 65535 (0, d)).2 (rvec 2 2 65535 (0, d)).1 = (0, (rvec 2 2 65535 (0, d)).1) := by unfold rin; rw [hc]; rfl
      rw [e] at h
      split
      · rfl
      · split at h
        · rename_i hx
          rw [show (rfail 1 (rvec 1 1 255 (0, (rvec 2 2 65535 (0, d)).1)).2).1 = 1 by unfold rfail; simp [hx.1]] at h
          cases h
        · obtain ⟨x, r, hx, hl⟩ := rvec_range h rfl
          have hh := rdv_high hx
          have hx0 : x = [] := List.length_eq_zero_iff.1 (by omega)
          simp only at hx
          rw [hx, Option.bind_some]
          simp [hx0]
    · have h2' : (rvec 2 2 65535 (0, d)).2.1 = 2 := by
        rwa [rdone_code hc] at h
      obtain ⟨x, r, hx, hl⟩ := rvec_range h2' rfl
      have hh := rdv_high hx
      simp only at hx
      rw [hx, Option.bind_some]
      simp only
      split
      · rfl
      · rename_i hne
        have hl1 : x.length = 1 := by
          have := List.length_pos_iff.2 hne
          omega
        match x, hl1 with
        | [c], _ =>
          have e1 : rd 1 [c] = some ([c], []) := rfl
          by_cases hc0 : be [c] = 0
          · have e2 : rdv 1 [c] = some ([], []) := by unfold rdv; rw [e1]; simp only; rw [hc0]; rfl
            rw [e2]; simp
          · have e2 : rdv 1 [c] = none := by
              unfold rdv; rw [e1]; simp only; unfold rd
              rw [if_neg (by simp; omega)]
            rw [e2]; rfl
  rw [if_neg h3] at h
  by_cases h4 : ty = 18
  · rw [if_pos h4] at h
    subst h4
    simp only [shExt, show ¬ (18 : Nat) = 5 by decide, show ¬ (18 : Nat) = 35 by decide, show ¬ (18 : Nat) = 65281 by decide, show ¬ (18 : Nat) = 23 by decide, show ¬ (18 : Nat) = 16 by decide, if_false, if_true]
    by_cases hc : (rvec 2 1 65535 (0, d)).2.1 = 0
    · obtain ⟨_, hr⟩ := rvec_ok0 hc
      simp only at hr
      rw [hr, Option.bind_some]
      simp only
      replace h := rdone_range h hc
      have e : rin (rvec 2 1 65535 (0, d)).2 (rvec 2 1 65535 (0, d)).1 = (0, (rvec 2 1 65535 (0, d)).1) := by unfold rin; rw [hc]; rfl
      rw [e] at h
      split
      · rfl
      · rw [rvecs_range h (Nat.le_refl _)]; rfl
    · have h2' : (rvec 2 1 65535 (0, d)).2.1 = 2 := by
        rwa [rdone_code hc] at h
      obtain ⟨x, r, hx, hl⟩ := rvec_range h2' rfl
      have hh := rdv_high hx
      have hx0 : x = [] := List.length_eq_zero_iff.1 (by omega)
      simp only at hx
      rw [hx, Option.bind_some]
      simp [hx0]
  rw [if_neg h4] at h
  by_cases h5 : ty = 43 ∨ ty = 41
  · rw [if_pos h5] at h
    exact absurd h (fine_rnum fz)
  rw [if_neg h5] at h
  by_cases h6 : ty = 51
  · rw [if_pos h6] at h
    have hf : fine (if (rnum 2 ((0 : Nat), d)).2.1 = 0 ∧ (rnum 2 ((0 : Nat), d)).2.2 = [] then (rnum 2 ((0 : Nat), d)).2 else (rvec 2 0 65535 (rnum 2 ((0 : Nat), d)).2).2).1 := by
      split
      · exact fine_rnum fz
      · exact fine_rvec (k := 2) (high := 65535) (fine_rnum fz) (by decide)
    split at h
    · exact absurd h (fine_rfail hf (show (1 : Nat) ≠ 2 by decide))
    · exact absurd h hf
  rw [if_neg h6] at h
  by_cases h7 : ty = 44
  · rw [if_pos h7] at h
    subst h7
    simp only [shExt, show ¬ (44 : Nat) = 5 by decide, show ¬ (44 : Nat) = 35 by decide, show ¬ (44 : Nat) = 65281 by decide, show ¬ (44 : Nat) = 23 by decide, show ¬ (44 : Nat) = 16 by decide, show ¬ (44 : Nat) = 18 by decide, show ¬ (44 : Nat) = 43 by decide, if_false, if_true]
    obtain ⟨x, r, hx, hl⟩ := rvec_range h rfl
    have hh := rdv_high hx
    have hx0 : x = [] := List.length_eq_zero_iff.1 (by omega)
    simp only at hx
    rw [hx, Option.bind_some]
    simp [hx0]
  rw [if_neg h7] at h
  by_cases h8 : ty = 11
  · rw [if_pos h8] at h
    subst h8
    simp only [shExt, show ¬ (11 : Nat) = 5 by decide, show ¬ (11 : Nat) = 35 by decide, show ¬ (11 : Nat) = 65281 by decide, show ¬ (11 : Nat) = 23 by decide, show ¬ (11 : Nat) = 16 by decide, show ¬ (11 : Nat) = 18 by decide, show ¬ (11 : Nat) = 43 by decide, show ¬ (11 : Nat) = 44 by decide, show ¬ (11 : Nat) = 51 by decide, show ¬ (11 : Nat) = 41 by decide, if_false, if_true]
    obtain ⟨x, r, hx, hl⟩ := rvec_range h rfl
    have hh := rdv_high hx
    have hx0 : x = [] := List.length_eq_zero_iff.1 (by omega)
    simp only at hx
    rw [hx, Option.bind_some]
    simp [hx0]
  rw [if_neg h8] at h
  by_cases h9 : ty = 65037
  · rw [if_pos h9] at h
    unfold rrest at h
    split at h
    · exact absurd h (fine_rfail fz (show (1 : Nat) ≠ 2 by decide))
    · cases h
  rw [if_neg h9] at h
  cases h

/-- Once something was found it stays found. -/
theorem RLoop_code : ∀ {l : List (Nat × List UInt8)} {st st' : Nat × List UInt8}, RLoop l st st' → st.1 ≠ 0 → st'.1 = st.1
  | [], _, _, h, _ => by rw [h]
  | e :: l, st, st', ⟨b, h⟩, h0 => by
    have h1 := RLoop_code h (by rw [rdone_code h0]; exact h0)
    rw [h1, rdone_code h0]

theorem RLoop_range : ∀ {l : List (Nat × List UInt8)} {r : List UInt8} {st' : Nat × List UInt8}, RLoop l (0, r) st' → st'.1 = 2 → ∃ e ∈ l, ∃ b, (rend (rsext e.1 b (0, e.2))).1 = 2
  | [], _, _, h, h2 => by rw [h] at h2; cases h2
  | e :: l, r, st', ⟨b, h⟩, h2 => by
    have er : rin ((0 : Nat), r) e.2 = (0, e.2) := by unfold rin; simp
    rw [er] at h
    by_cases h0 : (rend (rsext e.1 b (0, e.2))).1 = 0
    · have hd : rdone (0, r) (rsext e.1 b (0, e.2)) = (0, r) := by unfold rdone; rw [if_pos h0]
      rw [hd] at h
      obtain ⟨e', he', b', hb⟩ := RLoop_range h h2
      exact ⟨e', by simp [he'], b', hb⟩
    · have hd : (rdone (0, r) (rsext e.1 b (0, e.2))).1 = (rend (rsext e.1 b (0, e.2))).1 := by
        unfold rdone; rw [if_neg h0]; unfold rfail; simp
      have h1 := RLoop_code h (by rw [hd]; exact h0)
      exact ⟨e, by simp, b, by rw [← hd, ← h1]; exact h2⟩

/-- Bytes that split into extensions. -/
def Spl : List (Nat × List UInt8) → List UInt8 → Prop
  | [], s => s = []
  | e :: L, s => ∃ t r1 r, rd 2 s = some (t, r1) ∧ be t = e.1 ∧ rdv 2 r1 = some (e.2, r) ∧ Spl L r

theorem rexts_spl {f : Nat} : ∀ {out : List (Nat × List UInt8)} {s : List UInt8}, (rexts f out (0, s)).2 = (0, []) → s.length ≤ f → ∃ L, (rexts f out (0, s)).1 = out ++ L ∧ Spl L s := by
  induction f with
  | zero =>
    intro out s h hl
    obtain rfl : s = [] := List.length_eq_zero_iff.1 (by omega)
    exact ⟨[], by simp [rexts], rfl⟩
  | succ f ih =>
    intro out s h hl
    by_cases hs : s = []
    · subst hs
      exact ⟨[], by simp [rexts], rfl⟩
    · have hstep : rexts (f + 1) out (0, s) = rexts f (out ++ [((rnum 2 (0, s)).1, (rvec 2 0 65535 (rnum 2 (0, s)).2).1)])
          (if (out.any fun x => x.1 == (rnum 2 (0, s)).1) = true then rfail 4 (rvec 2 0 65535 (rnum 2 (0, s)).2).2 else (rvec 2 0 65535 (rnum 2 (0, s)).2).2) := by
        show (if s = [] then _ else _) = _
        rw [if_neg hs]
      rw [hstep] at h ⊢
      obtain ⟨sp, hsp⟩ : ∃ sp, sp = (if (out.any fun x => x.1 == (rnum 2 ((0 : Nat), s)).1) = true then rfail 4 (rvec 2 0 65535 (rnum 2 ((0 : Nat), s)).2).2 else (rvec 2 0 65535 (rnum 2 ((0 : Nat), s)).2).2) := ⟨_, rfl⟩
      rw [← hsp] at h ⊢
      have hrest : sp.1 ≠ 0 → sp.2 = [] := by
        intro hne
        rw [hsp] at hne ⊢
        split
        · rfl
        · rename_i hd
          rw [if_neg hd] at hne
          by_cases hn : (rnum 2 ((0 : Nat), s)).2.1 = 0
          · exact rvec_rest0 hne hn
          · have e := rnum_bad hn rfl
            rw [e]
            rfl
      by_cases h0 : sp.1 = 0
      · have hv : (rvec 2 0 65535 (rnum 2 ((0 : Nat), s)).2).2.1 = 0 ∧ sp = (rvec 2 0 65535 (rnum 2 ((0 : Nat), s)).2).2 := by
          rw [hsp] at h0 ⊢
          split at h0
          · exact absurd h0 (rfail_ne (by decide))
          · rename_i hd
            rw [if_neg hd]
            exact ⟨h0, rfl⟩
        obtain ⟨hn, hr⟩ := rvec_ok0 hv.1
        obtain ⟨_, t, ht, hbe⟩ := rnum_ok0 hn
        have esp : sp = (0, sp.2) := Prod.ext h0 rfl
        rw [esp] at h ⊢
        have hlt : sp.2.length < s.length := by
          have h1 := rnum_rest (k := 2) (st := ((0 : Nat), s)) (by omega) hs
          have h2 := rvec_le (k := 2) (low := 0) (high := 65535) (st := (rnum 2 ((0 : Nat), s)).2)
          rw [hv.2]
          simp only at h1
          omega
        obtain ⟨L, hL, hS⟩ := ih h (by omega)
        refine ⟨((rnum 2 (0, s)).1, (rvec 2 0 65535 (rnum 2 (0, s)).2).1) :: L, ?_, t, (rnum 2 (0, s)).2.2, sp.2, ht, hbe, ?_, hS⟩
        · rw [hL]; simp
        · rw [hr, hv.2]
      · have e : rexts f (out ++ [((rnum 2 ((0 : Nat), s)).1, (rvec 2 0 65535 (rnum 2 ((0 : Nat), s)).2).1)]) sp = (out ++ [((rnum 2 ((0 : Nat), s)).1, (rvec 2 0 65535 (rnum 2 ((0 : Nat), s)).2).1)], sp) := by
          cases f with
          | zero => rfl
          | succ f =>
            show (if sp.2 = [] then _ else _) = _
            rw [if_pos (hrest h0)]
        rw [e] at h
        simp only at h
        rw [h] at h0
        exact absurd rfl h0

/-- Extensions of which one is always refused are refused. -/
theorem shExts_none : ∀ {L : List (Nat × List UInt8)} {s : List UInt8} (n : Nat) (seen : List Nat) (f : SH), Spl L s → (∃ e ∈ L, ∀ f, shExt f e.1 e.2 = none) → shExts n seen f s = none
  | [], s, n, seen, f, _, ⟨e, he, _⟩ => by simp at he
  | x :: L, s, n, seen, f, ⟨t, r1, r, ht, hb, hr, hS⟩, ⟨e, he, hno⟩ => by
    have hs : s ≠ [] := by
      rintro rfl
      simp [rd] at ht
    cases n with
    | zero => show (if s = [] then _ else _) = _; rw [if_neg hs]
    | succ n =>
      rw [shExts_succ hs, ht, Option.bind_some, hr, Option.bind_some]
      simp only
      split
      · rfl
      · rcases List.mem_cons.1 he with rfl | he
        · rw [hb, hno f]; rfl
        · cases hx : shExt f (be t) x.2 with
          | none => rfl
          | some y =>
            rw [Option.bind_some]
            split
            · exact shExts_none n _ _ hS ⟨e, he, hno⟩
            · rfl

end Go.Proofs.Ytopcljikkdlffaa
