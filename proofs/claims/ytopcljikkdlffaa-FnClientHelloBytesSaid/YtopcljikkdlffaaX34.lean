/- The plain law of a whole ClientHello: what the reference reads, package tls reads; what it finds broken, out of range or twice, package tls refuses. No program and no memory stand here. The plain law of a whole ClientHello: what the reference reads, package tls reads; what it finds broken, out of range or twice, package tls refuses. No program and no memory stand here. No statement of the seat is proved here. -/
import Derived.Test.YtopcljikkdlffaaX33
import Derived.Test.YtopcljikkdlffaaX14
namespace Go.Proofs.Ytopcljikkdlffaa

/-- Only whether anything stands behind an extension is asked. -/
theorem chExt_rest {f : CH} {ty : Nat} {d r1 r2 : List UInt8} (h : r1 = [] ↔ r2 = []) : chExt f ty d r1 = chExt f ty d r2 := by
  unfold chExt
  by_cases h1 : r1 = []
  · rw [h1, h.1 h1]
  · have h2 : r2 ≠ [] := fun e => h1 (h.2 e)
    have e : ∀ (A : Option (CH × List UInt8)), (if r1 ≠ [] then none else A) = if r2 ≠ [] then none else A := fun A => by rw [if_pos h1, if_pos h2]
    simp only [e]

/-- Extensions that were cut out already. -/
def chFold : CH → List (Nat × List UInt8) → Option CH
  | f, [] => some f
  | f, e :: l => (chExt { f with exts := f.exts ++ [e.1] } e.1 e.2 (if l = [] then [] else [0])).bind fun y => if y.2 = [] then chFold y.1 l else none

/-- The reference's extensions, one behind the other. -/
def rcloop : List (Nat × List UInt8) → CH → Nat × List UInt8 → CH × (Nat × List UInt8)
  | [], f, r => (f, r)
  | e :: l, f, r => rcloop l (rcext e.1 f (rin r e.2)).1 (if e.1 = 41 ∧ l ≠ [] then rfail 4 (rdone r (rcext e.1 f (rin r e.2)).2) else rdone r (rcext e.1 f (rin r e.2)).2)

theorem any_types {out : List (Nat × List UInt8)} {t : Nat} : (out.any fun x => x.1 == t) = true ↔ t ∈ out.map (·.1) := by
  simp only [List.any_eq_true, beq_iff_eq, List.mem_map]
  

theorem rexts_nil (n : Nat) (out : List (Nat × List UInt8)) (sp : Nat × List UInt8) (h : sp.2 = []) : rexts n out sp = (out, sp) := by
  cases n with
  | zero => rfl
  | succ n => show (if sp.2 = [] then _ else _) = _; rw [if_pos h]
theorem rexts_succ (n : Nat) (out : List (Nat × List UInt8)) (sp : Nat × List UInt8) (h : sp.2 ≠ []) : rexts (n + 1) out sp = rexts n (out ++ [((rnum 2 sp).1, (rvec 2 0 65535 (rnum 2 sp).2).1)])
      (if (out.any fun x => x.1 == (rnum 2 sp).1) = true then rfail 4 (rvec 2 0 65535 (rnum 2 sp).2).2 else (rvec 2 0 65535 (rnum 2 sp).2).2) := by
  show (if sp.2 = [] then _ else _) = _
  rw [if_neg h]

/-- Extensions are cut out alike. -/
theorem ca_rexts : ∀ (n : Nat) (s : List UInt8) (out : List (Nat × List UInt8)) (seen : List Nat), s.length ≤ n → (∀ t, t ∈ seen ↔ t ∈ out.map (·.1)) →
    ((rexts n out (0, s)).2.1 ≠ 0 ∧ ∀ f, chExts n seen f s = none) ∨
      ∃ L, rexts n out (0, s) = (out ++ L, (0, [])) ∧ (∀ f, chExts n seen f s = chFold f L) ∧ (L.map (·.1)).Nodup ∧ (∀ t ∈ L.map (·.1), t ∉ seen) ∧ (L = [] ↔ s = [])
  | n, [], out, seen, _, _ => .inr ⟨[], by rw [rexts_nil _ _ _ rfl]; simp, fun f => by rw [chExts_nil]; rfl, by simp, by simp, by simp⟩
  | 0, c :: s, out, seen, h, _ => by simp at h
  | n + 1, c :: s, out, seen, h, hseen => by
    rw [rexts_succ _ _ _ (by simp)]
    have hcx : ∀ f, chExts (n + 1) seen f (c :: s) = _ := fun f => chExts_succ (by simp)
    rcases ca_rnum 2 (c :: s) with ⟨h1, h2⟩ | ⟨a, r, h1, h2⟩
    · left
      have e : (rexts n (out ++ [((rnum 2 (0, c :: s)).1, (rvec 2 0 65535 (rnum 2 (0, c :: s)).2).1)])
          (if (out.any fun x => x.1 == (rnum 2 (0, c :: s)).1) = true then rfail 4 (rvec 2 0 65535 (rnum 2 (0, c :: s)).2).2 else (rvec 2 0 65535 (rnum 2 (0, c :: s)).2).2)).2.1 = 3 := by
        rw [h2, ca_rvecx 2 0 65535 (by decide) (by decide), ca_rfail (by decide)]
        simp only [ite_self]
        rw [rexts_nil _ _ _ rfl]
      exact ⟨by rw [e]; decide, fun f => by rw [hcx, h1]; rfl⟩
    · have hl := (rd_lt h1).2
      rw [h2]
      simp only
      rcases ca_vec0 (k := 2) (high := 65535) (by decide) r with ⟨h3, h4⟩ | ⟨x, r2, h3, h4⟩
      · left
        rw [h4]
        simp only
        rw [ca_rfail (by decide)]
        simp only [ite_self]
        rw [rexts_nil _ _ _ rfl]
        exact ⟨by show (3 : Nat) ≠ 0; decide, fun f => by rw [hcx, h1, Option.bind_some, h3]; rfl⟩
      · have hl2 := (rdv_lt h3).2
        rw [h4]
        simp only
        by_cases hm : be a ∈ seen
        · left
          rw [if_pos (any_types.2 ((hseen _).1 hm)), ca_rfail0, rexts_nil _ _ _ rfl]
          exact ⟨by simp, fun f => by rw [hcx, h1, Option.bind_some, h3, Option.bind_some, if_pos hm]⟩
        · have hm2 : be a ∉ out.map (·.1) := fun h => hm ((hseen _).2 h)
          rw [if_neg (fun h => hm2 (any_types.1 h))]
          rcases ca_rexts n r2 (out ++ [(be a, x)]) (be a :: seen) (by simp only [List.length_cons] at hl h; omega) (fun t => by rw [List.map_append, List.mem_append, List.mem_cons, hseen t]; simp [or_comm]) with ⟨h5, h6⟩ | ⟨L, h5, h6, h7, h8, h9⟩
          · left
            refine ⟨h5, fun f => ?_⟩
            rw [hcx, h1, Option.bind_some, h3, Option.bind_some, if_neg hm]
            simp only
            cases he : chExt { f with exts := f.exts ++ [be a] } (be a) x r2 with
            | none => rfl
            | some y =>
              rw [Option.bind_some]
              split
              · exact h6 _
              · rfl
          · right
            refine ⟨(be a, x) :: L, by rw [h5]; simp, fun f => ?_, ?_, ?_, by simp⟩
            · rw [hcx, h1, Option.bind_some, h3, Option.bind_some, if_neg hm]
              simp only
              show _ = Option.bind _ _
              rw [chExt_rest (r1 := r2) (r2 := if L = [] then [] else [0]) (by rw [← h9]; split <;> simp_all)]
              simp only
              congr 1
              funext y
              split
              · exact h6 _
              · rfl
            · simp only [List.map_cons, List.nodup_cons]
              exact ⟨fun hh => h8 _ hh (by simp), h7⟩
            · intro t ht
              simp only [List.map_cons, List.mem_cons] at ht
              rcases ht with rfl | ht
              · exact hm
              · exact fun hh => h8 t ht (by simp [hh])

/-- The numbers of the extensions do not matter. -/
theorem rcext_exts (ty : Nat) (f : CH) (E : List Nat) (st : Nat × List UInt8) : rcext ty { f with exts := E } st = ({ (rcext ty f st).1 with exts := E }, (rcext ty f st).2) := by
  by_cases h0 : ty = 0
  · subst h0
    have e : ∀ F : CH, rcext 0 F st = ({ F with name := (rname st).1 }, (rname st).2) := fun _ => rfl
    rw [e, e]
  by_cases h5 : ty = 5
  · subst h5
    have e : ∀ F : CH, rcext 5 F st = ({ F with ocsp := true }, (rvec 2 0 65535 (rvec 2 0 65535 (rkind 1 st)).2).2) := fun _ => rfl
    rw [e, e]
  by_cases h10 : ty = 10
  · subst h10
    have e : ∀ F : CH, rcext 10 F st = ({ F with curves := (rvw 2 65535 st).1 }, (rvw 2 65535 st).2) := fun _ => rfl
    rw [e, e]
  by_cases h11 : ty = 11
  · subst h11
    have e : ∀ F : CH, rcext 11 F st = ({ F with points := (rvec 1 1 255 st).1 }, (rvec 1 1 255 st).2) := fun _ => rfl
    rw [e, e]
  by_cases h35 : ty = 35
  · subst h35
    have e : ∀ F : CH, rcext 35 F st = ({ F with ticket := true, tickets := st.2 }, (st.1, [])) := fun _ => rfl
    rw [e, e]
  by_cases h13 : ty = 13
  · subst h13
    have e : ∀ F : CH, rcext 13 F st = ({ F with sigs := (rvw 2 65535 st).1 }, (rvw 2 65535 st).2) := fun _ => rfl
    rw [e, e]
  by_cases h50 : ty = 50
  · subst h50
    have e : ∀ F : CH, rcext 50 F st = ({ F with sigsC := (rvw 2 65535 st).1 }, (rvw 2 65535 st).2) := fun _ => rfl
    rw [e, e]
  by_cases h65281 : ty = 65281
  · subst h65281
    have e : ∀ F : CH, rcext 65281 F st = ({ F with srs := true, sr := (rvec 1 0 255 st).1 }, (rvec 1 0 255 st).2) := fun _ => rfl
    rw [e, e]
  by_cases h23 : ty = 23
  · subst h23
    have e : ∀ F : CH, rcext 23 F st = ({ F with ems := true }, st) := fun _ => rfl
    rw [e, e]
  by_cases h16 : ty = 16
  · subst h16
    have e : ∀ F : CH, rcext 16 F st = ({ F with alpn := (rvv st).1 }, (rvv st).2) := fun _ => rfl
    rw [e, e]
  by_cases h18 : ty = 18
  · subst h18
    have e : ∀ F : CH, rcext 18 F st = ({ F with scts := true }, st) := fun _ => rfl
    rw [e, e]
  by_cases h43 : ty = 43
  · subst h43
    have e : ∀ F : CH, rcext 43 F st = ({ F with vers13 := (rvw 1 255 st).1 }, (rvw 1 255 st).2) := fun _ => rfl
    rw [e, e]
  by_cases h44 : ty = 44
  · subst h44
    have e : ∀ F : CH, rcext 44 F st = ({ F with cookie := (rvec 2 1 65535 st).1 }, (rvec 2 1 65535 st).2) := fun _ => rfl
    rw [e, e]
  by_cases h51 : ty = 51
  · subst h51
    have e : ∀ F : CH, rcext 51 F st = ({ F with shares := F.shares ++ (rshares st).1 }, (rshares st).2) := fun _ => rfl
    rw [e, e]
  by_cases h42 : ty = 42
  · subst h42
    have e : ∀ F : CH, rcext 42 F st = ({ F with early := true }, st) := fun _ => rfl
    rw [e, e]
  by_cases h45 : ty = 45
  · subst h45
    have e : ∀ F : CH, rcext 45 F st = ({ F with modes := (rvec 1 0 255 st).1 }, if (rvec 1 0 255 st).1 = [] then rfail 1 (rvec 1 0 255 st).2 else (rvec 1 0 255 st).2) := fun _ => rfl
    rw [e, e]
  by_cases h57 : ty = 57
  · subst h57
    have e : ∀ F : CH, rcext 57 F st = ({ F with quic := some st.2 }, (st.1, [])) := fun _ => rfl
    rw [e, e]
  by_cases h65037 : ty = 65037
  · subst h65037
    have e : ∀ F : CH, rcext 65037 F st = ({ F with ech := (rrest st).1 }, (rrest st).2) := fun _ => rfl
    rw [e, e]
  by_cases h41 : ty = 41
  · subst h41
    have e : ∀ F : CH, rcext 41 F st = ({ F with psks := F.psks ++ (rids st).1, binders := (rbind (F.psks ++ (rids st).1).length (rids st).2).1 }, (rbind (F.psks ++ (rids st).1).length (rids st).2).2) := fun _ => rfl
    rw [e, e]
  unfold rcext rcext13
  simp only [if_neg h0, if_neg h5, if_neg h10, if_neg h11, if_neg h35, if_neg h13, if_neg h50, if_neg h65281, if_neg h23, if_neg h16, if_neg h18, if_neg h43, if_neg h44, if_neg h51, if_neg h42, if_neg h45, if_neg h57, if_neg h65037, if_neg h41]

theorem fresh_exts {f : CH} {t : Nat} {E : List Nat} (h : f.fresh t) : CH.fresh { f with exts := E } t := ⟨h.name, h.curves, h.sigs, h.sigsC, h.alpn, h.vers13, h.binders⟩

/-- What one extension says is not said of another. -/
theorem rcext_fresh {ty t : Nat} {f : CH} {st : Nat × List UInt8} (h : f.fresh t) (ht : t ≠ ty) : (rcext ty f st).1.fresh t := by
  by_cases h0 : ty = 0
  · subst h0
    have e : ∀ F : CH, rcext 0 F st = ({ F with name := (rname st).1 }, (rname st).2) := fun _ => rfl
    rw [e]
    exact ⟨fun e => absurd e ht, h.curves, h.sigs, h.sigsC, h.alpn, h.vers13, h.binders⟩
  by_cases h5 : ty = 5
  · subst h5
    have e : ∀ F : CH, rcext 5 F st = ({ F with ocsp := true }, (rvec 2 0 65535 (rvec 2 0 65535 (rkind 1 st)).2).2) := fun _ => rfl
    rw [e]
    exact ⟨h.name, h.curves, h.sigs, h.sigsC, h.alpn, h.vers13, h.binders⟩
  by_cases h10 : ty = 10
  · subst h10
    have e : ∀ F : CH, rcext 10 F st = ({ F with curves := (rvw 2 65535 st).1 }, (rvw 2 65535 st).2) := fun _ => rfl
    rw [e]
    exact ⟨h.name, fun e => absurd e ht, h.sigs, h.sigsC, h.alpn, h.vers13, h.binders⟩
  by_cases h11 : ty = 11
  · subst h11
    have e : ∀ F : CH, rcext 11 F st = ({ F with points := (rvec 1 1 255 st).1 }, (rvec 1 1 255 st).2) := fun _ => rfl
    rw [e]
    exact ⟨h.name, h.curves, h.sigs, h.sigsC, h.alpn, h.vers13, h.binders⟩
  by_cases h35 : ty = 35
  · subst h35
    have e : ∀ F : CH, rcext 35 F st = ({ F with ticket := true, tickets := st.2 }, (st.1, [])) := fun _ => rfl
    rw [e]
    exact ⟨h.name, h.curves, h.sigs, h.sigsC, h.alpn, h.vers13, h.binders⟩
  by_cases h13 : ty = 13
  · subst h13
    have e : ∀ F : CH, rcext 13 F st = ({ F with sigs := (rvw 2 65535 st).1 }, (rvw 2 65535 st).2) := fun _ => rfl
    rw [e]
    exact ⟨h.name, h.curves, fun e => absurd e ht, h.sigsC, h.alpn, h.vers13, h.binders⟩
  by_cases h50 : ty = 50
  · subst h50
    have e : ∀ F : CH, rcext 50 F st = ({ F with sigsC := (rvw 2 65535 st).1 }, (rvw 2 65535 st).2) := fun _ => rfl
    rw [e]
    exact ⟨h.name, h.curves, h.sigs, fun e => absurd e ht, h.alpn, h.vers13, h.binders⟩
  by_cases h65281 : ty = 65281
  · subst h65281
    have e : ∀ F : CH, rcext 65281 F st = ({ F with srs := true, sr := (rvec 1 0 255 st).1 }, (rvec 1 0 255 st).2) := fun _ => rfl
    rw [e]
    exact ⟨h.name, h.curves, h.sigs, h.sigsC, h.alpn, h.vers13, h.binders⟩
  by_cases h23 : ty = 23
  · subst h23
    have e : ∀ F : CH, rcext 23 F st = ({ F with ems := true }, st) := fun _ => rfl
    rw [e]
    exact ⟨h.name, h.curves, h.sigs, h.sigsC, h.alpn, h.vers13, h.binders⟩
  by_cases h16 : ty = 16
  · subst h16
    have e : ∀ F : CH, rcext 16 F st = ({ F with alpn := (rvv st).1 }, (rvv st).2) := fun _ => rfl
    rw [e]
    exact ⟨h.name, h.curves, h.sigs, h.sigsC, fun e => absurd e ht, h.vers13, h.binders⟩
  by_cases h18 : ty = 18
  · subst h18
    have e : ∀ F : CH, rcext 18 F st = ({ F with scts := true }, st) := fun _ => rfl
    rw [e]
    exact ⟨h.name, h.curves, h.sigs, h.sigsC, h.alpn, h.vers13, h.binders⟩
  by_cases h43 : ty = 43
  · subst h43
    have e : ∀ F : CH, rcext 43 F st = ({ F with vers13 := (rvw 1 255 st).1 }, (rvw 1 255 st).2) := fun _ => rfl
    rw [e]
    exact ⟨h.name, h.curves, h.sigs, h.sigsC, h.alpn, fun e => absurd e ht, h.binders⟩
  by_cases h44 : ty = 44
  · subst h44
    have e : ∀ F : CH, rcext 44 F st = ({ F with cookie := (rvec 2 1 65535 st).1 }, (rvec 2 1 65535 st).2) := fun _ => rfl
    rw [e]
    exact ⟨h.name, h.curves, h.sigs, h.sigsC, h.alpn, h.vers13, h.binders⟩
  by_cases h51 : ty = 51
  · subst h51
    have e : ∀ F : CH, rcext 51 F st = ({ F with shares := F.shares ++ (rshares st).1 }, (rshares st).2) := fun _ => rfl
    rw [e]
    exact ⟨h.name, h.curves, h.sigs, h.sigsC, h.alpn, h.vers13, h.binders⟩
  by_cases h42 : ty = 42
  · subst h42
    have e : ∀ F : CH, rcext 42 F st = ({ F with early := true }, st) := fun _ => rfl
    rw [e]
    exact ⟨h.name, h.curves, h.sigs, h.sigsC, h.alpn, h.vers13, h.binders⟩
  by_cases h45 : ty = 45
  · subst h45
    have e : ∀ F : CH, rcext 45 F st = ({ F with modes := (rvec 1 0 255 st).1 }, if (rvec 1 0 255 st).1 = [] then rfail 1 (rvec 1 0 255 st).2 else (rvec 1 0 255 st).2) := fun _ => rfl
    rw [e]
    exact ⟨h.name, h.curves, h.sigs, h.sigsC, h.alpn, h.vers13, h.binders⟩
  by_cases h57 : ty = 57
  · subst h57
    have e : ∀ F : CH, rcext 57 F st = ({ F with quic := some st.2 }, (st.1, [])) := fun _ => rfl
    rw [e]
    exact ⟨h.name, h.curves, h.sigs, h.sigsC, h.alpn, h.vers13, h.binders⟩
  by_cases h65037 : ty = 65037
  · subst h65037
    have e : ∀ F : CH, rcext 65037 F st = ({ F with ech := (rrest st).1 }, (rrest st).2) := fun _ => rfl
    rw [e]
    exact ⟨h.name, h.curves, h.sigs, h.sigsC, h.alpn, h.vers13, h.binders⟩
  by_cases h41 : ty = 41
  · subst h41
    have e : ∀ F : CH, rcext 41 F st = ({ F with psks := F.psks ++ (rids st).1, binders := (rbind (F.psks ++ (rids st).1).length (rids st).2).1 }, (rbind (F.psks ++ (rids st).1).length (rids st).2).2) := fun _ => rfl
    rw [e]
    exact ⟨h.name, h.curves, h.sigs, h.sigsC, h.alpn, h.vers13, fun e => absurd e ht⟩
  unfold rcext rcext13
  simp only [if_neg h0, if_neg h5, if_neg h10, if_neg h11, if_neg h35, if_neg h13, if_neg h50, if_neg h65281, if_neg h23, if_neg h16, if_neg h18, if_neg h43, if_neg h44, if_neg h51, if_neg h42, if_neg h45, if_neg h57, if_neg h65037, if_neg h41]
  exact h

theorem rcloop_code : ∀ (L : List (Nat × List UInt8)) (f : CH) (r : Nat × List UInt8), r.1 ≠ 0 → (rcloop L f r).2.1 = r.1
  | [], _, _, _ => rfl
  | e :: L, f, (c, q), hc => by
    have h1 : ∀ p, (rdone (c, q) p).1 = c := fun p => (ca_rdonex hc q p).1
    have h2 : ∀ p, (rfail 4 (rdone (c, q) p)).1 = c := fun p => by rw [ca_rfail (by rw [h1]; exact hc)]; exact h1 p
    show (rcloop L _ _).2.1 = c
    split
    · rw [rcloop_code L _ _ (by rw [h2]; exact hc), h2]
    · rw [rcloop_code L _ _ (by rw [h1]; exact hc), h1]

/-- The extensions, one behind the other. -/
theorem ca_loop : ∀ (L : List (Nat × List UInt8)) (f : CH) (E : List Nat) (r : List UInt8), (L.map (·.1)).Nodup → (∀ t ∈ L.map (·.1), f.fresh t) →
    (∃ f0 q, rcloop L { f with exts := E } (0, r) = ({ f0 with exts := E }, (0, q)) ∧ chFold f L = some f0) ∨ ((rcloop L { f with exts := E } (0, r)).2.1 ≠ 0 ∧ chFold f L = none) ∨ (rcloop L { f with exts := E } (0, r)).2.1 = 1
  | [], f, E, r, _, _ => .inl ⟨f, r, rfl, rfl⟩
  | e :: L, f, E, r, hnd, hfr => by
    obtain ⟨ty, d⟩ := e
    simp only [List.map_cons, List.nodup_cons] at hnd
    have hf : f.fresh ty := hfr ty (by simp)
    have hu : rcloop ((ty, d) :: L) { f with exts := E } (0, r) = rcloop L { (rcext ty f (0, d)).1 with exts := E } (if ty = 41 ∧ L ≠ [] then rfail 4 (rdone (0, r) (rcext ty f (0, d)).2) else rdone (0, r) (rcext ty f (0, d)).2) := by
      show rcloop L (rcext ty { f with exts := E } (rin (0, r) d)).1 (if ty = 41 ∧ L ≠ [] then rfail 4 (rdone (0, r) (rcext ty { f with exts := E } (rin (0, r) d)).2) else rdone (0, r) (rcext ty { f with exts := E } (rin (0, r) d)).2) = _
      rw [ca_rin0, rcext_exts]
    have hv : chFold f ((ty, d) :: L) = (chExt { f with exts := f.exts ++ [ty] } ty d (if L = [] then [] else [0])).bind fun y => if y.2 = [] then chFold y.1 L else none := rfl
    by_cases hp : ty = 41 ∧ L ≠ []
    · refine .inr (.inl ⟨?_, ?_⟩)
      · rw [hu, if_pos hp]
        have h4 : (rfail 4 (rdone (0, r) (rcext ty f (0, d)).2)).1 ≠ 0 := by
          unfold rfail
          simp only
          split
          · decide
          · assumption
        rw [rcloop_code _ _ _ h4]
        exact h4
      · rw [hv, if_neg hp.2, hp.1]
        rfl
    · rw [if_neg hp] at hu
      have hs := ext_same (f := { f with exts := f.exts ++ [ty] }) (d := d) (rest := if L = [] then [] else [0]) (fresh_exts hf) (fun e => by
        by_cases hL : L = []
        · rw [if_pos hL]
        · exact absurd ⟨e, hL⟩ hp)
      unfold ExtSame at hs
      rw [rcext_exts] at hs
      rcases hs with ⟨f', q, h1, h2⟩ | ⟨h1, h2⟩ | h1
      · have h3 : (rcext ty f (0, d)).2 = (0, q) := congrArg Prod.snd h1
        have h4 : f' = { (rcext ty f (0, d)).1 with exts := f.exts ++ [ty] } := (congrArg Prod.fst h1).symm
        rw [h2, Option.bind_some] at hv
        rw [h3] at hu
        by_cases hq : q = []
        · subst hq
          rw [if_pos rfl] at hv
          rw [ca_rdone0] at hu
          rw [hu, hv]
          have e9 : ({ (rcext ty f (0, d)).1 with exts := E } : CH) = { f' with exts := E } := by rw [h4]
          rw [e9]
          exact ca_loop L f' E r hnd.2 (fun t ht => by
            rw [h4]
            refine fresh_exts (rcext_fresh (hfr t (by simp [ht])) ?_)
            rintro rfl
            exact hnd.1 ht)
        · rw [if_neg hq] at hv
          rw [ca_rdone3 hq] at hu
          refine .inr (.inl ⟨?_, hv⟩)
          rw [hu, rcloop_code _ _ _ (by decide)]
          decide
      · refine .inr (.inl ⟨?_, by rw [hv, h2]; rfl⟩)
        obtain ⟨c, q, hc⟩ : ∃ c q, (rcext ty f (0, d)).2 = (c, q) := ⟨_, _, rfl⟩
        rw [hc] at h1 hu
        simp only at h1
        rw [ca_rdone1 h1] at hu
        rw [hu, rcloop_code _ _ _ h1]
        exact h1
      · refine .inr (.inr ?_)
        obtain ⟨c, q, hc⟩ : ∃ c q, (rcext ty f (0, d)).2 = (c, q) := ⟨_, _, rfl⟩
        simp only at h1
        rw [hc] at h1 hu
        simp only at h1
        subst h1
        rw [ca_rdone1 (by decide)] at hu
        rw [hu, rcloop_code _ _ _ (by decide)]

end Go.Proofs.Ytopcljikkdlffaa
namespace Go.Proofs.Ytopcljikkdlffaa

/-- What the reference makes of the head, step by step. -/
def rh0 (bs : List UInt8) : Nat × (Nat × List UInt8) := rnum 2 (rbody0 1 bs)
def rh1 (bs : List UInt8) : Nat × List UInt8 := (rnum 32 (rh0 bs).2).2
def rh2 (bs : List UInt8) : List UInt8 × (Nat × List UInt8) := rvec 1 0 255 (rh1 bs)
def rh3 (bs : List UInt8) : List UInt8 × (Nat × List UInt8) := rvec 2 0 65535 (rh2 bs).2
def rh4 (bs : List UInt8) : List Nat × (Nat × List UInt8) := rwords (rh3 bs).2 (rh3 bs).1
def rh5 (bs : List UInt8) : List UInt8 × (Nat × List UInt8) := rvec 1 0 255 (rh4 bs).2
def rhF (bs : List UInt8) : CH := { vers := (rh0 bs).1, random := (rh0 bs).2.2.take 32, session := (rh2 bs).1, suites := (rh4 bs).1, srs := decide (255 ∈ (rh4 bs).1), comps := (rh5 bs).1 }
def rhS (bs : List UInt8) : Nat × List UInt8 := if (rh5 bs).2.1 = 0 ∧ (32 < (rh2 bs).1.length ∨ (rh4 bs).1 = [] ∨ (rh5 bs).1 = []) then rfail 1 (rh5 bs).2 else (rh5 bs).2

/-- What the reference reads, and what it finds. -/
def rch (bs : List UInt8) : CH × Nat :=
  if (rhS bs).1 ≠ 0 ∨ (rhS bs).2 = [] then (rhF bs, (rhS bs).1)
  else ((rcloop (rextensions (rhS bs)).1 { rhF bs with exts := (rextensions (rhS bs)).1.map (·.1) } (rend (rextensions (rhS bs)).2)).1, (rcloop (rextensions (rhS bs)).1 { rhF bs with exts := (rextensions (rhS bs)).1.map (·.1) } (rend (rextensions (rhS bs)).2)).2.1)

theorem ca_body (bs : List UInt8) : rbody0 1 bs = (1, []) ∨ ∃ h r, rd 4 bs = some (h, r) ∧ rbody0 1 bs = (0, r) := by
  unfold rbody0
  split
  · exact .inl rfl
  · rename_i h4
    have e0 : rbody 1 bs = rbody2 (rnum 3 (if (rnum 1 (0, bs)).1 = 1 then (rnum 1 (0, bs)).2 else rfail 1 (rnum 1 (0, bs)).2)) := rfl
    rw [e0]
    rcases ca_rnum 1 bs with ⟨h1, _⟩ | ⟨a, q, h1, h2⟩
    · have := rd_none h1; omega
    · rw [h2]
      simp only
      by_cases ha : be a = 1
      · rw [if_pos ha]
        rcases ca_rnum 3 q with ⟨h3, _⟩ | ⟨b, r, h3, h5⟩
        · have h6 := rd_none h3
          have h7 := (rd_lt h1).2
          omega
        · rw [h5]
          unfold rbody2
          simp only
          split
          · right
            refine ⟨a ++ b, r, ?_, rfl⟩
            obtain ⟨e1, e2⟩ := rd_some h1
            obtain ⟨e3, e4⟩ := rd_some h3
            rw [e1, e3, ← List.append_assoc]
            have := rd_append (a ++ b) r
            rwa [show (a ++ b).length = 4 by simp; omega] at this
          · left; rw [ca_rfail0]
      · left
        rw [if_neg ha, ca_rfail0, ca_rnumx 3 (by decide) (by decide)]
        rfl

theorem rwords_bad {c : Nat} (hc : c ≠ 0) (bx : List UInt8) : (rwords (c, []) bx).2 = (c, []) := by
  have e := ca_rdonex hc [] (rw16 bx.length (rin (c, []) bx)).2
  exact Prod.ext e.1 (e.2 rfl)

theorem bad5 {bs : List UInt8} {c : Nat} (hc : c ≠ 0) (h : (rh4 bs).2 = (c, [])) : rhS bs = (c, []) := by
  have e : rh5 bs = ([], (c, [])) := by unfold rh5; rw [h, ca_rvecx 1 0 255 hc (by decide)]
  unfold rhS
  rw [e, if_neg (fun h => hc h.1)]
theorem bad4 {bs : List UInt8} {c : Nat} (hc : c ≠ 0) (h : (rh3 bs).2 = (c, [])) : rhS bs = (c, []) := bad5 hc (by unfold rh4; rw [h]; exact rwords_bad hc _)
theorem bad3 {bs : List UInt8} {c : Nat} (hc : c ≠ 0) (h : (rh2 bs).2 = (c, [])) : rhS bs = (c, []) := bad4 hc (by unfold rh3; rw [h, ca_rvecx 2 0 65535 hc (by decide)])
theorem bad2 {bs : List UInt8} {c : Nat} (hc : c ≠ 0) (h : rh1 bs = (c, [])) : rhS bs = (c, []) := bad3 hc (by unfold rh2; rw [h, ca_rvecx 1 0 255 hc (by decide)])
theorem bad1 {bs : List UInt8} {c : Nat} (hc : c ≠ 0) (h : (rh0 bs).2 = (c, [])) : rhS bs = (c, []) := bad2 hc (by unfold rh1; rw [h, ca_rnumx 32 hc (by decide)])

theorem rch_head (bs : List UInt8) : (∃ r, rhS bs = (0, r) ∧ chHead bs = some (rhF bs, r) ∧ 32 ≤ (rh0 bs).2.2.length) ∨ (∃ c, c ≠ 0 ∧ rhS bs = (c, []) ∧ chHead bs = none) ∨ rhS bs = (1, []) := by
  have hh : chHead bs = (rd 4 bs).bind fun h => (rd 2 h.2).bind fun v => (rd 32 v.2).bind fun r => (rdv 1 r.2).bind fun s => (rdv 2 s.2).bind fun c => (twords c.1.length c.1).bind fun l => (rdv 1 c.2).map fun k =>
    ({ vers := be v.1, random := r.1, session := s.1, suites := l, srs := decide (255 ∈ l), comps := k.1 }, k.2) := rfl
  rcases ca_body bs with h0 | ⟨h, r, h0, h1⟩
  · refine .inr (.inr (bad1 (by decide) ?_))
    unfold rh0
    rw [h0, ca_rnumx 2 (by decide) (by decide)]
  · rw [h0, Option.bind_some] at hh
    simp only at hh
    rcases ca_rnum 2 r with ⟨k1, k2⟩ | ⟨v, r1, k1, k2⟩
    · refine .inr (.inl ⟨3, by decide, bad1 (by decide) (by unfold rh0; rw [h1, k2]), by rw [hh, k1]; rfl⟩)
    · have e0 : rh0 bs = (be v, (0, r1)) := by unfold rh0; rw [h1, k2]
      rw [k1, Option.bind_some] at hh
      simp only at hh
      rcases ca_rnum 32 r1 with ⟨k3, k4⟩ | ⟨a, r2, k3, k4⟩
      · refine .inr (.inl ⟨3, by decide, bad2 (by decide) (by unfold rh1; rw [e0, k4]), by rw [hh, k3]; rfl⟩)
      · have e1 : rh1 bs = (0, r2) := by unfold rh1; rw [e0, k4]
        have hl32 := (rd_lt k3)
        have ha : r1.take 32 = a := by
          obtain ⟨e3, e4⟩ := rd_some k3
          rw [e3, ← e4, List.take_left']
          rfl
        rw [k3, Option.bind_some] at hh
        simp only at hh
        rcases ca_vec0 (k := 1) (high := 255) (by decide) r2 with ⟨k5, k6⟩ | ⟨s, r3, k5, k6⟩
        · refine .inr (.inl ⟨3, by decide, bad3 (by decide) (by unfold rh2; rw [e1, k6]), by rw [hh, k5]; rfl⟩)
        · have e2 : rh2 bs = (s, (0, r3)) := by unfold rh2; rw [e1, k6]
          rw [k5, Option.bind_some] at hh
          simp only at hh
          rcases ca_vec0 (k := 2) (high := 65535) (by decide) r3 with ⟨k7, k8⟩ | ⟨x, r4, k7, k8⟩
          · refine .inr (.inl ⟨3, by decide, bad4 (by decide) (by unfold rh3; rw [e2, k8]), by rw [hh, k7]; rfl⟩)
          · have e3 : rh3 bs = (x, (0, r4)) := by unfold rh3; rw [e2, k8]
            rw [k7, Option.bind_some] at hh
            simp only at hh
            have e4 : rh4 bs = rwords (0, r4) x := by unfold rh4; rw [e3]
            unfold rwords at e4
            rw [ca_rin0] at e4
            rcases ca_rw16 x.length x (Nat.le_refl _) with ⟨k9, L, k10⟩ | ⟨L, k9, k10⟩
            · rw [k10, ca_rdone1 (by decide)] at e4
              exact .inr (.inl ⟨3, by decide, bad5 (by decide) (by rw [e4]), by rw [hh, k9]; rfl⟩)
            · rw [k10, ca_rdone0] at e4
              rw [k9, Option.bind_some] at hh
              rcases ca_vec0 (k := 1) (high := 255) (by decide) r4 with ⟨k11, k12⟩ | ⟨k, r5, k11, k12⟩
              · have e5 : rh5 bs = ([], (3, [])) := by unfold rh5; rw [e4, k12]
                refine .inr (.inl ⟨3, by decide, ?_, by rw [hh, k11]; rfl⟩)
                unfold rhS
                rw [e5, if_neg (fun h => by cases h.1)]
              · have e5 : rh5 bs = (k, (0, r5)) := by unfold rh5; rw [e4, k12]
                rw [k11] at hh
                by_cases hx : 32 < s.length ∨ L = [] ∨ k = []
                · refine .inr (.inr ?_)
                  unfold rhS
                  rw [e5, e4, e2, if_pos ⟨rfl, hx⟩, ca_rfail0]
                · refine .inl ⟨r5, ?_, ?_, by rw [e0]; simp only; omega⟩
                  · unfold rhS
                    rw [e5, e4, e2, if_neg (fun h => hx h.2)]
                  · rw [hh]
                    unfold rhF
                    rw [e0, e2, e4, e5]
                    simp only [ha]
                    rfl

theorem rhF_fresh (bs : List UInt8) (t : Nat) : (rhF bs).fresh t := ⟨fun _ => rfl, fun _ => rfl, fun _ => rfl, fun _ => rfl, fun _ => rfl, fun _ => rfl, fun _ => rfl⟩

/-- What the reference reads, package tls reads; what it finds broken, out of range or twice, package tls refuses. -/
theorem rch_same (bs : List UInt8) : (∃ f0 E, rch bs = ({ f0 with exts := E }, 0) ∧ chRead bs = some f0) ∨ ((rch bs).2 ≠ 0 ∧ chRead bs = none) ∨ (rch bs).2 = 1 := by
  have hc : chRead bs = (chHead bs).bind fun h => if h.2 = [] then some h.1 else (rdv 2 h.2).bind fun e => if e.2 = [] then chExts e.1.length [] h.1 e.1 else none := rfl
  rcases rch_head bs with ⟨r, h1, h2, _⟩ | ⟨c, h0, h1, h2⟩ | h1
  · rw [h2, Option.bind_some] at hc
    simp only at hc
    obtain ⟨f, hf⟩ : ∃ f, f = rhF bs := ⟨_, rfl⟩
    have hfr : ∀ t, f.fresh t := fun t => by rw [hf]; exact rhF_fresh bs t
    unfold rch
    rw [← hf] at hc ⊢
    rw [h1]
    clear hf h1 h2
    by_cases hr : r = []
    · rw [if_pos (.inr hr)]
      rw [if_pos hr] at hc
      exact .inl ⟨f, f.exts, rfl, hc⟩
    · rw [if_neg (by simp [hr])]
      rw [if_neg hr] at hc
      have he : rextensions (0, r) = ((rexts (rvec 2 0 65535 (0, r)).1.length [] (rin (rvec 2 0 65535 (0, r)).2 (rvec 2 0 65535 (0, r)).1)).1,
        rdone (rvec 2 0 65535 (0, r)).2 (rexts (rvec 2 0 65535 (0, r)).1.length [] (rin (rvec 2 0 65535 (0, r)).2 (rvec 2 0 65535 (0, r)).1)).2) := rfl
      rcases ca_vec0 (k := 2) (high := 65535) (by decide) r with ⟨k1, k2⟩ | ⟨x, r2, k1, k2⟩
      · rw [k2] at he
        have he2 : rextensions (0, r) = ([], (3, [])) := by rw [he]; rfl
        rw [he2]
        exact .inr (.inl ⟨by show (3 : Nat) ≠ 0; decide, by rw [hc, k1]; rfl⟩)
      · rw [k2, ca_rin0] at he
        rw [k1, Option.bind_some] at hc
        simp only at hc he
        rcases ca_rexts x.length x [] [] (Nat.le_refl _) (fun t => by simp) with ⟨h5, h6⟩ | ⟨L, h5, h6, h7, _, _⟩
        · obtain ⟨L, c, q, hL⟩ : ∃ L c q, rexts x.length [] (0, x) = (L, (c, q)) := ⟨_, _, _, rfl⟩
          rw [hL] at he h5
          simp only at h5
          rw [ca_rdone1 h5] at he
          rw [he]
          refine .inr (.inl ⟨?_, ?_⟩)
          · have e3 : rend (c, []) = (c, []) := rfl
            show (rcloop _ _ (rend (c, []))).2.1 ≠ 0
            rw [e3, rcloop_code _ _ _ h5]
            exact h5
          · rw [hc]
            split
            · exact h6 f
            · rfl
        · rw [h5, List.nil_append, ca_rdone0] at he
          rw [he]
          simp only
          by_cases hr2 : r2 = []
          · subst hr2
            rw [if_pos rfl, h6] at hc
            have e3 : rend (0, []) = (0, []) := rfl
            rw [e3]
            rcases ca_loop L f (L.map (·.1)) [] h7 (fun t _ => hfr t) with ⟨f0, q, g1, g2⟩ | ⟨g1, g2⟩ | g1
            · exact .inl ⟨f0, _, by rw [g1], by rw [hc, g2]⟩
            · exact .inr (.inl ⟨g1, by rw [hc, g2]⟩)
            · exact .inr (.inr g1)
          · have e3 : rend (0, r2) = (3, []) := by unfold rend; rw [if_neg hr2, ca_rfail0]
            rw [e3]
            refine .inr (.inl ⟨?_, by rw [hc, if_neg hr2]⟩)
            show (rcloop _ _ _).2.1 ≠ 0
            rw [rcloop_code _ _ _ (by decide)]
            decide
  · unfold rch
    rw [h1, if_pos (.inl h0)]
    exact .inr (.inl ⟨h0, by rw [hc, h2]; rfl⟩)
  · unfold rch
    rw [h1, if_pos (.inl (by decide))]
    exact .inr (.inr rfl)

end Go.Proofs.Ytopcljikkdlffaa
