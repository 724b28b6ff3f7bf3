/- unmarshalCertificate of package tls. No statement of the seat is proved here. -/
import Derived.Test.YtopcljikkdlffaaCb
namespace Go.Proofs.Ytopcljikkdlffaa
open Go.RowKit

theorem uc_sw_ok {w0 w : World} {C : Array Value} {g m pB lB cB eB tB dB : Nat} {ps l c ex : List UInt8} {f : C13} {d : List UInt8} {s : Array Value} (ty : Nat) (hF : UcFrame s m lB eB) (h9 : s[9]? = some (.pointer (some ⟨dB, 0, none⟩))) (h50 : s[50]? = some (.int .u16 (ty : Nat))) (hsz : f.stamps.length + d.length ≤ 4294967296)
    (hB : Bn w0 C g m (ucBs C g m pB lB cB eB tB ps l c ex ty f ++ [(dB, [.vw d])]) none w) : Code.wp Try.prog ucSwitch (UcSw w0 C g m lB eB dB (ucBs C g m pB lB cB eB tB ps l c ex ty) f ty d) ⟨s, []⟩ w := by
  obtain ⟨hs, h1, h5, h7⟩ := hF
  obtain ⟨z, rfl⟩ := arr105 s hs
  have e1 : z 1 = .pointer (some ⟨m, 0, none⟩) := Option.some.inj h1
  have e5 : z 5 = .pointer (some ⟨lB, 0, none⟩) := Option.some.inj h5
  have e7 : z 7 = .pointer (some ⟨eB, 0, none⟩) := Option.some.inj h7
  have e9 : z 9 = .pointer (some ⟨dB, 0, none⟩) := Option.some.inj h9
  have e50 : z 50 = .int .u16 (ty : Nat) := Option.some.inj h50
  rw [e1, e5, e7, e9, e50]
  clear hs h1 h5 h7 h9 h50 e1 e5 e7 e9 e50
  by_cases h5 : ty = 5
  · subst h5; exact uc_sw_5 z hB
  by_cases h18 : ty = 18
  · subst h18; exact uc_sw_18 z hsz hB
  exact uc_sw_other z ty h5 h18 hB

theorem c13Ext_len {f f' : C13} {ty : Nat} {d r : List UInt8} (h : c13Ext f ty d = some (f', r)) : f'.certs = f.certs ∧ f'.stamps.length ≤ f.stamps.length + d.length := by
  unfold c13Ext at h
  by_cases h5 : ty = 5
  · rw [if_pos h5] at h
    obtain ⟨t, h1, h2⟩ := Option.bind_eq_some_iff.1 h
    by_cases hb : be t.1 = 1
    · rw [if_pos hb] at h2
      obtain ⟨⟨x, rr⟩, h3, h4⟩ := Option.bind_eq_some_iff.1 h2
      by_cases hx : x = []
      · rw [if_pos hx] at h4; cases h4
      · rw [if_neg hx] at h4
        cases h4
        exact ⟨rfl, by simp⟩
    · rw [if_neg hb] at h2; cases h2
  · rw [if_neg h5] at h
    by_cases h18 : ty = 18
    · rw [if_pos h18] at h
      obtain ⟨⟨l, rr⟩, h1, h2⟩ := Option.bind_eq_some_iff.1 h
      by_cases hl : l = []
      · rw [if_pos hl] at h2; cases h2
      · rw [if_neg hl] at h2
        obtain ⟨L, h3, h4⟩ := Option.map_eq_some_iff.1 h2
        cases h4
        obtain ⟨e1, _⟩ := tvecs_len h3
        obtain ⟨e3, _⟩ := rdv_some h1
        refine ⟨rfl, ?_⟩
        have hd : d.length = 2 + l.length + rr.length := by rw [e3]; simp [en_length]; omega
        have hm := vecs_many (k := 2) (by omega) L
        rw [← e1] at hm
        simp only at hm
        simp only [List.length_append]
        omega
    · rw [if_neg h18] at h
      cases h
      exact ⟨rfl, by omega⟩

/-- The blocks around the extensions of one certificate. -/
def ucB5 (C : Array Value) (g m pB lB cB eB : Nat) (ps l c ex : List UInt8) (f : C13) : List (Nat × List FD) := [(m, c13F C g f), (pB, [.vw ps]), (lB, [.vw l]), (cB, [.vw c]), (eB, [.vw ex])]

/-- What holds ahead of each extension. -/
def UcInv (w0 : World) (C : Array Value) (g m pB lB cB eB : Nat) (ps l c : List UInt8) (K : Nat) (tot : Option C13) (a : Act) (w : World) : Prop :=
  a.defers = [] ∧ UcFrame a.tmps m lB eB ∧ ∃ (f : C13) (ex : List UInt8) (n : Nat), Bn w0 C g m (ucB5 C g m pB lB cB eB ps l c ex f) none w ∧ ex.length ≤ n ∧ c13Exts n f ex = tot ∧ f.certs.length + l.length ≤ K ∧ f.stamps.length + ex.length + l.length ≤ K

set_option maxRecDepth 100000 in
set_option maxHeartbeats 8000000 in
theorem uc_ext_round {w0 w : World} {C : Array Value} {g m pB lB cB eB : Nat} {ps l c : List UInt8} {K : Nat} {tot : Option C13} {Q0 : Exit → Act → World → Prop} {a : Act} (hK : K ≤ 4294967296)
    (hexit : ∀ f a' w', tot = some f → Bn w0 C g m (ucB5 C g m pB lB cB eB ps l c [] f) none w' → f.certs.length + l.length ≤ K → f.stamps.length + l.length ≤ K → a'.defers = [] → UcFrame a'.tmps m lB eB → Q0 (.exit 2) a' w')
    (hret : ∀ a' w', tot = none → Fs [m] w0 w' → a'.defers = [] → a'.tmps[4]? = some (.bool false) → Q0 .ret a' w')
    (hI : UcInv w0 C g m pB lB cB eB ps l c K tot a w) :
    Code.wp Try.prog ucExtBody (Exit.then (fun a' w'' => UcInv w0 C g m pB lB cB eB ps l c K tot a' w'' ∧ cellLen w'' eB < cellLen w eB) Q0) a w := by
  obtain ⟨hdf, ⟨hsz, h1, h5, h7⟩, f, ex, n, hb, hn, htot, hk1, hk2⟩ := hI
  obtain ⟨s, dl⟩ := a
  simp only at hdf hsz h1 h5 h7
  subst hdf
  obtain ⟨z, rfl⟩ := arr105 s hsz
  have e1 : z 1 = .pointer (some ⟨m, 0, none⟩) := Option.some.inj h1
  have e5 : z 5 = .pointer (some ⟨lB, 0, none⟩) := Option.some.inj h5
  have e7 : z 7 = .pointer (some ⟨eB, 0, none⟩) := Option.some.inj h7
  rw [e1, e5, e7]
  clear hsz h1 h5 h7 e1 e5 e7
  have HB := Lib.hid hb
  have HTOT := Lib.hid htot
  have HEX := Lib.hid hexit
  have HRT := Lib.hid hret
  have HCL := Lib.hid (hb.len (b := 4) (F := []) rfl)
  obtain ⟨vs, hvs, hV⟩ := hb.vw (b := 4) (i := 0) rfl rfl
  have HV := Lib.hid hV
  clear hexit hret hb htot hV
  conv => arg 2; whnf
  go_wp2_with fail
  refine (empty_any _ HV.out).mono ?_
  rintro e w2 ⟨rfl, rfl⟩
  by_cases hr0 : ex = []
  · subst hr0
    have ht : tot = some f := by rw [← HTOT.out, c13Exts_nil]
    have HT := Lib.hid ht
    clear ht hvs HV
    simp only [List.isEmpty_nil]
    go_wp2_with fail
    exact HEX.out f _ _ HT.out HB.out (by omega) (by simpa using hk2) rfl ⟨rfl, rfl, rfl, rfl⟩
  · have he0 : ex.isEmpty = false := by simpa using hr0
    rw [he0]
    obtain ⟨n, rfl⟩ : ∃ n', n = n' + 1 := ⟨n - 1, by have := List.length_pos_iff.2 hr0; omega⟩
    have ht1 := c13Exts_succ (n := n) (f := f) hr0
    rw [HTOT.out] at ht1
    have HT1 := Lib.hid ht1
    clear ht1 he0 hr0 hvs HV
    go_wp2_with fail
    have HB1 := Lib.hid ((HB.out.one (.int .u16 0) 35 .any rfl trivial).one (.slice none 0 0) 152 .any rfl trivial)
    rw [World.size_alloc] at HB1
    obtain ⟨tB, htB⟩ : ∃ x, x = w.heap.size := ⟨_, rfl⟩
    rw [← htB] at HB1 ⊢
    obtain ⟨dB, hdB⟩ : ∃ x, x = tB + 1 := ⟨_, rfl⟩
    rw [← hdB] at HB1 ⊢
    clear htB hdB
    cases hr : rd 2 ex with
    | none =>
      have HR := Lib.hid hr
      have HTN := Lib.hid (show tot = none by rw [HT1.out, hr]; rfl)
      clear hr
      refine (bru16_no HB1.out HR.out (b := 4) (i := 0) rfl rfl _).mono ?_
      rintro e wx ⟨rfl, hf⟩
      have HF := Lib.hid hf
      clear hf
      go_wp2_with fail
      exact HRT.out _ _ HTN.out HF.out rfl rfl
    | some y =>
      obtain ⟨t, r1⟩ := y
      have HR := Lib.hid hr
      have htl : t.length = 2 := (rd_some hr).2
      have hrl1 : ex.length = 2 + r1.length := by rw [(rd_some hr).1]; simp [htl]
      clear hr
      refine (bru16 HB1.out HR.out (b := 4) (i := 0) rfl rfl (c := 5) (j := 0) rfl rfl (by decide)).mono ?_
      rintro e w1 ⟨rfl, hb⟩
      have hb : Bn w0 C g m (ucBs C g m pB lB cB eB tB ps l c r1 (be t) f ++ [(dB, [.any])]) none w1 := hb
      have HB2 := Lib.hid hb
      clear hb
      go_wp2_with fail
      cases hr2 : rdv 2 r1 with
      | none =>
        have HR2 := Lib.hid hr2
        have HTN := Lib.hid (show tot = none by rw [HT1.out, HR.out, Option.bind_some, hr2]; rfl)
        clear hr2
        refine (br16_no HB2.out HR2.out (b := 4) (i := 0) rfl rfl _).mono ?_
        rintro e wx ⟨rfl, hf⟩
        have HF := Lib.hid hf
        clear hf
        go_wp2_with fail
        exact HRT.out _ _ HTN.out HF.out rfl rfl
      | some y =>
        obtain ⟨d, r2⟩ := y
        have HR2 := Lib.hid hr2
        have hrl2 : r1.length = 2 + d.length + r2.length := by rw [(rdv_some hr2).1]; simp [en_length]; omega
        clear hr2
        refine (br16 HB2.out HR2.out (b := 4) (i := 0) rfl rfl (c := 6) (j := 0) rfl rfl (.vw d) rfl (fun _ h => h) (by decide)).mono ?_
        rintro e w2 ⟨rfl, hb⟩
        have hb : Bn w0 C g m (ucBs C g m pB lB cB eB tB ps l c r2 (be t) f ++ [(dB, [.vw d])]) none w2 := hb
        have HB3 := Lib.hid hb
        have ct := hb.val (b := 5) (i := 0) rfl rfl
        obtain ⟨vc, us, hvc, hown, _⟩ := hb.own (b := 0) (i := 0) rfl rfl
        obtain ⟨ao, co, rfl⟩ := row_slice hown
        have HFB5 := Lib.hid (hb.take 5)
        clear hb hown
        by_cases hc : 1 < f.certs.length
        · have HTT := Lib.hid (show tot = c13Exts n f r2 by rw [HT1.out, HR.out, Option.bind_some, HR2.out, Option.bind_some, if_pos hc])
          go_wp2_with fail
          exact ⟨⟨rfl, ⟨rfl, rfl, rfl, rfl⟩, f, r2, n, HFB5.out, by omega, HTT.out.symm, hk1, by omega⟩, by rw [HFB5.out.len (b := 4) (F := []) rfl, HCL.out]; omega⟩
        · have HTT := Lib.hid (show tot = (c13Ext f (be t) d).bind fun y => if y.2 = [] then c13Exts n y.1 r2 else none by rw [HT1.out, HR.out, Option.bind_some, HR2.out, Option.bind_some, if_neg hc])
          go_upto_block 4 with fail
          refine Code.wp_mono (Q := UcSw w0 C g m lB eB dB (ucBs C g m pB lB cB eB tB ps l c r2 (be t)) f (be t) d) ?_ (uc_sw_ok (be t) ⟨rfl, rfl, rfl, rfl⟩ rfl rfl (by omega) HB3.out)
          rintro e ⟨s', dl'⟩ w4 ⟨hdf, hsz4, hcase⟩
          simp only at hdf hsz4
          subst hdf
          rcases hcase with ⟨rfl, hno, h4, hfs⟩ | ⟨f4, r4, hyes, hfr, hrest⟩
          · have hTN : tot = none := by rw [HTT.out, hno]; rfl
            simp only [Exit.then, Exit.inBlock]
            exact HRT.out _ _ hTN hfs rfl h4
          · obtain ⟨hce, hst⟩ := c13Ext_len hyes
            have hfin : ∀ (a' : Act) (w' : World), a'.defers = [] → UcFrame a'.tmps m lB eB → Bn w0 C g m (ucB5 C g m pB lB cB eB ps l c r2 f4) none w' → r4 = [] →
                UcInv w0 C g m pB lB cB eB ps l c K tot a' w' ∧ cellLen w' eB < cellLen w eB := by
              rintro a' w' x1 x2 hb4 rfl
              refine ⟨⟨x1, x2, f4, r2, n, hb4, by omega, ?_, by rw [hce]; exact hk1, by omega⟩, ?_⟩
              · rw [HTT.out, hyes]; simp
              · rw [hb4.len (b := 4) (F := []) rfl, HCL.out]; omega
            rcases hrest with ⟨rfl, hr4, hb4⟩ | ⟨rfl, k9, hb4⟩
            · simp only [Exit.then, Exit.inBlock]
              exact hfin _ _ rfl hfr (hb4.take 5) hr4
            · simp only [Exit.then, Exit.inBlock]
              obtain ⟨_, k1, k5, k7⟩ := hfr
              obtain ⟨z', rfl⟩ := arr105 s' hsz4
              have e1 : z' 1 = .pointer (some ⟨m, 0, none⟩) := Option.some.inj k1
              have e5 : z' 5 = .pointer (some ⟨lB, 0, none⟩) := Option.some.inj k5
              have e7 : z' 7 = .pointer (some ⟨eB, 0, none⟩) := Option.some.inj k7
              have e9 : z' 9 = .pointer (some ⟨dB, 0, none⟩) := Option.some.inj k9
              rw [e1, e5, e7, e9]
              have HB4 := Lib.hid hb4
              obtain ⟨vd, cd, hvd⟩ := hb4.vw (b := 6) (i := 0) rfl rfl
              have HVD := Lib.hid hvd
              have HFIN := Lib.hid hfin
              have HY := Lib.hid hyes
              clear hsz4 k1 k5 k7 k9 e1 e5 e7 e9 hb4 hvd hfin hyes hce hst hvc ct
              go_wp2_with fail
              refine (empty_any _ HVD.out).mono ?_
              rintro e wy ⟨rfl, rfl⟩
              by_cases hr4 : r4 = []
              · subst hr4
                simp only [List.isEmpty_nil]
                go_wp2_with fail
                exact HFIN.out _ _ rfl ⟨rfl, rfl, rfl, rfl⟩ (HB4.out.take 5) (by first | rfl | trivial)
              · have he4 : r4.isEmpty = false := by simpa using hr4
                rw [he4]
                have HTN := Lib.hid (show tot = none by rw [HTT.out, HY.out]; simp [hr4])
                clear hr4 he4
                go_wp2_with fail
                exact HRT.out _ _ HTN.out HB4.out.fs rfl rfl

/-- What holds ahead of each certificate. -/
def UdInv (w0 : World) (C : Array Value) (g m pB lB : Nat) (ps : List UInt8) (K : Nat) (tot : Option C13) (a : Act) (w : World) : Prop :=
  a.defers = [] ∧ a.tmps.size = 105 ∧ a.tmps[1]? = some (.pointer (some ⟨m, 0, none⟩)) ∧ a.tmps[5]? = some (.pointer (some ⟨lB, 0, none⟩)) ∧
    ∃ (f : C13) (l : List UInt8) (n : Nat), Bn w0 C g m [(m, c13F C g f), (pB, [.vw ps]), (lB, [.vw l])] none w ∧ l.length ≤ n ∧ c13Certs n f l = tot ∧ f.certs.length + l.length ≤ K ∧ f.stamps.length + l.length ≤ K

set_option maxRecDepth 100000 in
set_option maxHeartbeats 8000000 in
theorem uc_cert_round {w0 w : World} {C : Array Value} {g m pB lB : Nat} {ps : List UInt8} {K : Nat} {tot : Option C13} {Q0 : Exit → Act → World → Prop} {a : Act} (hK : K ≤ 4294967296)
    (hQ0 : ∀ (c : List PanicEntry) (a : Act) (d : Option Tmp) (v : Value) (w : World), Q0 (.panic c) (a.put d v) w → Q0 (.panic c) a w)
    (hexit : ∀ f a' w', tot = some f → Bn w0 C g m [(m, c13F C g f), (pB, [.vw ps])] none w' → a'.defers = [] → a'.tmps.size = 105 → Q0 (.exit 0) a' w')
    (hret : ∀ a' w', tot = none → Fs [m] w0 w' → a'.defers = [] → a'.tmps[4]? = some (.bool false) → Q0 .ret a' w')
    (hI : UdInv w0 C g m pB lB ps K tot a w) :
    Code.wp Try.prog ucCertBody (Exit.then (fun a' w'' => UdInv w0 C g m pB lB ps K tot a' w'' ∧ cellLen w'' lB < cellLen w lB) Q0) a w := by
  obtain ⟨hdf, hsz, h1, h5, f, l, n, hb, hn, htot, hk1, hk2⟩ := hI
  obtain ⟨s, dl⟩ := a
  simp only at hdf hsz h1 h5
  subst hdf
  obtain ⟨z, rfl⟩ := arr105 s hsz
  have e1 : z 1 = .pointer (some ⟨m, 0, none⟩) := Option.some.inj h1
  have e5 : z 5 = .pointer (some ⟨lB, 0, none⟩) := Option.some.inj h5
  rw [e1, e5]
  clear hsz h1 h5 e1 e5
  have HB := Lib.hid hb
  have HTOT := Lib.hid htot
  have HEX := Lib.hid hexit
  have HRT := Lib.hid hret
  have HQ := Lib.hid hQ0
  have HCL := Lib.hid (hb.len (b := 2) (F := []) rfl)
  obtain ⟨vs, hvs, hV⟩ := hb.vw (b := 2) (i := 0) rfl rfl
  have HV := Lib.hid hV
  clear hexit hret hb htot hV hQ0
  conv => arg 2; whnf
  go_wp2_with fail
  refine (empty_any _ HV.out).mono ?_
  rintro e w2 ⟨rfl, rfl⟩
  by_cases hr0 : l = []
  · subst hr0
    have ht : tot = some f := by rw [← HTOT.out, c13Certs_nil]
    have HT := Lib.hid ht
    clear ht hvs HV
    simp only [List.isEmpty_nil]
    go_wp2_with fail
    exact HEX.out f _ _ HT.out (HB.out.take 2) rfl rfl
  · have he0 : l.isEmpty = false := by simpa using hr0
    rw [he0]
    obtain ⟨n, rfl⟩ : ∃ n', n = n' + 1 := ⟨n - 1, by have := List.length_pos_iff.2 hr0; omega⟩
    have ht1 := c13Certs_succ (n := n) (f := f) hr0
    rw [HTOT.out] at ht1
    have HT1 := Lib.hid ht1
    clear ht1 he0 hr0 hvs HV
    go_wp2_with fail
    have HB1 := Lib.hid ((HB.out.one (.slice none 0 0) 22 .any rfl trivial).one (.slice none 0 0) 152 .any rfl trivial)
    rw [World.size_alloc] at HB1
    obtain ⟨cB, hcB⟩ : ∃ x, x = w.heap.size := ⟨_, rfl⟩
    rw [← hcB] at HB1 ⊢
    obtain ⟨eB, heB⟩ : ∃ x, x = cB + 1 := ⟨_, rfl⟩
    rw [← heB] at HB1 ⊢
    clear hcB heB
    cases hr : rdv 3 l with
    | none =>
      have HR := Lib.hid hr
      have HTN := Lib.hid (show tot = none by rw [HT1.out, hr]; rfl)
      clear hr
      refine (bt24_no HB1.out HR.out (b := 2) (i := 0) rfl rfl _).mono ?_
      rintro e wx ⟨rfl, hf⟩
      have HF := Lib.hid hf
      clear hf
      go_wp2_with fail
      exact HRT.out _ _ HTN.out HF.out rfl rfl
    | some y =>
      obtain ⟨c, r1⟩ := y
      have HR := Lib.hid hr
      have hrl1 : l.length = 3 + c.length + r1.length := by rw [(rdv_some hr).1]; simp [en_length]; omega
      clear hr
      refine (bt24 HB1.out HR.out (b := 2) (i := 0) rfl rfl (c := 3) (j := 0) rfl rfl (.vw c) rfl (fun _ h => h) (by decide)).mono ?_
      rintro e w1 ⟨rfl, hb⟩
      have hb : Bn w0 C g m [(m, c13F C g f), (pB, [.vw ps]), (lB, [.vw r1]), (cB, [.vw c]), (eB, [.any])] none w1 := hb
      have HB2 := Lib.hid hb
      clear hb
      go_wp2_with fail
      cases hr2 : rdv 2 r1 with
      | none =>
        have HR2 := Lib.hid hr2
        have HTN := Lib.hid (show tot = none by rw [HT1.out, HR.out, Option.bind_some, hr2]; rfl)
        clear hr2
        refine (br16_no HB2.out HR2.out (b := 2) (i := 0) rfl rfl _).mono ?_
        rintro e wx ⟨rfl, hf⟩
        have HF := Lib.hid hf
        clear hf
        go_wp2_with fail
        exact HRT.out _ _ HTN.out HF.out rfl rfl
      | some y =>
        obtain ⟨ex, r2⟩ := y
        have HR2 := Lib.hid hr2
        have hrl2 : r1.length = 2 + ex.length + r2.length := by rw [(rdv_some hr2).1]; simp [en_length]; omega
        clear hr2
        refine (br16 HB2.out HR2.out (b := 2) (i := 0) rfl rfl (c := 4) (j := 0) rfl rfl (.vw ex) rfl (fun _ h => h) (by decide)).mono ?_
        rintro e w3 ⟨rfl, hb⟩
        have hb : Bn w0 C g m (ucB5 C g m pB lB cB eB ps r2 c ex f) none w3 := hb
        have HB3 := Lib.hid hb
        have HTT := Lib.hid (show tot = (c13Exts ex.length { f with certs := f.certs ++ [c] } ex).bind fun f' => c13Certs n f' r2 by rw [HT1.out, HR.out, Option.bind_some, HR2.out, Option.bind_some])
        obtain ⟨u, hu, hU⟩ := hb.vw (b := 3) (i := 0) rfl rfl
        have HU := Lib.hid hU
        obtain ⟨ou, cu, hus, _⟩ := hU.slice
        subst hus
        clear hb hU
        go_wp2_with fail
        obtain ⟨i0, hi, hz0, hz1, hz2⟩ := info_parts Try.info22
        obtain ⟨vf, us, v', w', hvf, ⟨ao, co, rfl⟩, hRold, hrun, hv4, hz4, ⟨ao', co', rfl⟩, hoth, hB'⟩ := (((HB3.out.drew).push (.cells #[.slice (some ⟨g, ou, none⟩) c.length cu] 22)).grow (b := 0) (i := 0) rfl rfl 29 29 i0 (.slice none 0 0) 24 Try.underlying29 hi hz0 hz1 hz2 rfl (by decide) ⟨w3.heap.size, 0, none⟩ 1 1 [.slice (some ⟨g, ou, none⟩) c.length cu] rfl
          (fun j u hu => by
            match j, hu with
            | 0, hu => simp at hu; subst hu; exact World.cell?_alloc_new _ _ _ _) (fun u hu => by simp at hu; subst hu; rfl) (by show f.certs.length + 1 ≤ maxLen; unfold maxLen; omega) (by show (f.certs.length + 1) * 24 ≤ 140737488355328; omega))
        have hvf0 : w3.cell? ⟨m, 0, none⟩ = some (.slice ao f.certs.length co) := by
          rw [← hvf]; exact (World.cell?_alloc_lt _ _ _ (HB3.out.lt (b := 0) rfl)).symm
        have hq4 : w'.cell? ⟨cB, 0, none⟩ = some (.slice (some ⟨g, ou, none⟩) c.length cu) := ((hoth 3 _ _ 0 rfl).trans (World.cell?_alloc_lt _ _ _ (HB3.out.lt (b := 3) rfl))).trans hu
        have HN := Lib.hid (hB' (ShowL C g (f.certs ++ [c])) (f.certs ++ [c]).length (by simp) (hRold.1.snoc (by simpa using hRold.2) (.inr HU.out)))
        have HRUN := Lib.hid hrun
        have hml0 := HB3.out.lt (b := 0) rfl
        have hql0 := HB3.out.lt (b := 3) rfl
        clear hrun hoth hB' hRold hvf
        refine region_ord [(0, true), (1, true), (2, true), (3, true), (4, true), (5, true), (6, false), (7, false), (8, true), (9, true), (10, false)] (fun w' => w'.cell? ⟨m, 0, none⟩ = some (.slice ao f.certs.length co) ∧ w'.cell? ⟨cB, 0, none⟩ = some (.slice (some ⟨g, ou, none⟩) c.length cu)) mixed (by kernel_rfl) (by kernel_rfl) rfl (by intro c' a' d' v' w' h; simp only [Exit.then, Exit.inBlock] at h ⊢; exact HQ.out _ _ _ _ _ h) ⟨hvf0, hu⟩ ?_
        iterate 6 (apply wpOrd_pure rfl rfl; apply Exists.intro; refine ⟨fun w' hS => ?_, ?_⟩; (· (have hS1 := hS.1; have hS2 := hS.2; clear hS; first | (go_simp; done) | (go_simp; with_reducible rfl))); simp only [List.getElem_toArray, List.getElem_cons_succ, List.getElem_cons_zero, Act.put, List.setIfInBounds_toArray, List.set_cons_zero, List.set_cons_succ])
        refine wpOrd_run rfl rfl (fun K hK => ?_)
        go_simp
        refine hK _ _ (fun _ => ⟨(World.cell?_alloc_lt _ _ _ hml0).trans hvf0, (World.cell?_alloc_lt _ _ _ hql0).trans hu⟩) ?_
        clear hK K
        refine wpOrd_run rfl rfl (fun K hK => ?_)
        refine wp_append_run (.tmp 29) (.tmp 31) 29 rfl _ _ rfl rfl HRUN.out ?_
        refine hK _ _ (fun _ => ⟨hv4, hq4⟩) ?_
        clear hK K
        simp only [List.getElem_toArray, List.getElem_cons_succ, List.getElem_cons_zero, Act.put, List.setIfInBounds_toArray, List.set_cons_zero, List.set_cons_succ]
        iterate 2 (apply wpOrd_pure rfl rfl; apply Exists.intro; refine ⟨fun w' hS => ?_, ?_⟩; (· (have hS1 := hS.1; have hS2 := hS.2; clear hS; first | (go_simp; done) | (go_simp; with_reducible rfl))); simp only [List.getElem_toArray, List.getElem_cons_succ, List.getElem_cons_zero, Act.put, List.setIfInBounds_toArray, List.set_cons_zero, List.set_cons_succ])
        refine wpOrd_last rfl rfl (by kernel_rfl) (fun K hK => ?_)
        simp only [List.getElem_toArray, List.getElem_cons_succ, List.getElem_cons_zero]
        go_simp
        refine hK _ _ ?_
        refine wpOrd_nil ?_
        clear hK K
        have HB7 := HN
        clear HN HRUN hv4 hz4 hq4 hvf0
        have hb : Bn w0 C g m (ucB5 C g m pB lB cB eB ps r2 c ex { f with certs := f.certs ++ [c] }) none _ := HB7.out
        obtain ⟨wA, hwA⟩ : ∃ x : World, x = w'.setCell ⟨m, 0, none⟩ (.slice ao' (f.certs.length + 1) co') := ⟨_, rfl⟩
        rw [← hwA] at hb ⊢
        have HBA := Lib.hid hb
        clear hb hwA HB7 hu
        go_wp2_with fail
        refine wp_loop (UcInv w0 C g m pB lB cB eB ps r2 c K (c13Exts ex.length { f with certs := f.certs ++ [c] } ex)) (fun _ w' => cellLen w' eB)
          ⟨rfl, ⟨rfl, rfl, rfl, rfl⟩, { f with certs := f.certs ++ [c] }, ex, ex.length, HBA.out, Nat.le_refl _, rfl, by simp; omega, by show f.stamps.length + ex.length + r2.length ≤ K; omega⟩
          (fun a' w' hI => uc_ext_round hK ?_ ?_ hI)
        · intro f' a'' w'' hf' hb' hk1' hk2' hdf hfr
          simp only [Exit.then, Exit.inBlock]
          rw [if_pos trivial]
          refine ⟨⟨hdf, hfr.1, hfr.2.1, hfr.2.2.1, f', r2, n, hb'.take 3, by omega, ?_, hk1', hk2'⟩, ?_⟩
          · rw [HTT.out, hf']; rfl
          · rw [hb'.len (b := 2) (F := []) rfl, HCL.out]; omega
        · intro a'' w'' hnone hF' hdf h4
          simp only [Exit.then, Exit.inBlock]
          exact HRT.out _ _ (by rw [HTT.out, hnone]; rfl) hF' hdf h4

end Go.Proofs.Ytopcljikkdlffaa
