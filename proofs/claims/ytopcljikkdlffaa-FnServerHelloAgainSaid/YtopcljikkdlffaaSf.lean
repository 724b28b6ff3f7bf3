/- A ServerHello's unmarshal: the loop over its extensions. No statement of the seat is proved here. -/
import Derived.Test.YtopcljikkdlffaaSd
import Derived.Deep.CutBlock
import Derived.Carry
namespace Go.Proofs.Ytopcljikkdlffaa
open Go.RowKit

theorem Fs.fresh2 {a b : World} {m p : Nat} (h : Fs [m, p] a b) (hp : a.heap.size ≤ p) : Fs [m] a b :=
  ⟨h.os, h.tape, h.output, h.size, fun k hk hn => h.keep k hk fun hm => by
    simp only [List.mem_cons, List.not_mem_nil, or_false] at hm hn
    rcases hm with e | e
    · exact hn e
    · omega⟩

theorem Fs.only {l : List Nat} {a b : World} {m : Nat} (h : Fs l a b) (hl : ∀ p ∈ l, p = m ∨ a.heap.size ≤ p) : Fs [m] a b :=
  ⟨h.os, h.tape, h.output, h.size, fun k hk hn => h.keep k hk fun hm => by
    rcases hl k hm with e | e
    · exact hn (by simp [e])
    · omega⟩

/-- What the first loop of a piece of code goes round. -/
def loopOf : Code → Option Code
  | .loop c => some c
  | .seq a b => match loopOf a with
    | some c => some c
    | none => loopOf b
  | .block _ c => loopOf c
  | .scope c => loopOf c
  | .cond _ a b => match loopOf a with
    | some c => some c
    | none => loopOf b
  | _ => none

noncomputable def shBody : Code := ((Try.f84.body.bind loopOf).getD .skip)

/-- What holds ahead of each round. -/
def ShInv (w0 : World) (base : Nat) (C : Array Value) (g m eB mB : Nat) (k5 : Value) (tot : Option SH) (a : Act) (w : World) : Prop :=
  a.defers = [] ∧ a.tmps.size = 254 ∧ a.tmps[0]? = some (.pointer (some ⟨m, 0, none⟩)) ∧ a.tmps[5]? = some k5 ∧ a.tmps[6]? = some (.pointer (some ⟨eB, 0, none⟩)) ∧ a.tmps[7]? = some (.map (some mB)) ∧
    ∃ (f : SH) (seen : List Nat) (n : Nat) (rest : List UInt8) (v : Value), SHAt w base C g m f ∧ w.heap[eB]? = some (.cells #[v] 152 (0, 0)) ∧ View C g v rest ∧ SeenAt w mB seen ∧ rest.length ≤ n ∧ shExts n seen f rest = tot ∧
      (18 ∉ seen → f.scts = []) ∧ Fs [m, eB, mB] w0 w ∧ seen.length + rest.length ≤ 65536

theorem shExts_succ {n : Nat} {seen : List Nat} {f : SH} {s : List UInt8} (h : s ≠ []) : shExts (n + 1) seen f s = (rd 2 s).bind fun t => (rdv 2 t.2).bind fun d => if be t.1 ∈ seen then none else
      (shExt f (be t.1) d.1).bind fun y => if y.2 = [] then shExts n (be t.1 :: seen) y.1 d.2 else none := by
  show (if s = [] then _ else _) = _
  rw [if_neg h]

theorem ite_elim {α : Type} {c G : Prop} [Decidable c] {a b x : α} (h : (if c then a else b) = x) (h1 : c → a = x → G) (h2 : b = x → G) : G := by
  by_cases hc : c
  · rw [if_pos hc] at h; exact h1 hc h
  · rw [if_neg hc] at h; exact h2 h

theorem shExt_scts {f f' : SH} {ty : Nat} {d r : List UInt8} (h : shExt f ty d = some (f', r)) (h18 : ty ≠ 18) : f'.scts = f.scts := by
  have som : ∀ {p : SH × List UInt8}, some p = some (f', r) → p.1.scts = f.scts → f'.scts = f.scts := fun e1 e2 => by cases e1; exact e2
  have mp : ∀ {α : Type} {x : Option α} {k : α → SH × List UInt8}, x.map k = some (f', r) → (∀ y, (k y).1.scts = f.scts) → f'.scts = f.scts := fun e1 e2 => by
    obtain ⟨y, _, e3⟩ := Option.map_eq_some_iff.1 e1
    have := e2 y
    rw [e3] at this
    exact this
  unfold shExt at h
  refine ite_elim h (fun _ h => som h rfl) fun h => ?_
  refine ite_elim h (fun _ h => som h rfl) fun h => ?_
  refine ite_elim h (fun _ h => mp h fun _ => rfl) fun h => ?_
  refine ite_elim h (fun _ h => som h rfl) fun h => ?_
  refine ite_elim h (fun _ h => ?_) fun h => ?_
  · obtain ⟨l, _, h⟩ := Option.bind_eq_some_iff.1 h
    refine ite_elim h (fun _ h => by cases h) fun h => ?_
    obtain ⟨x, _, h⟩ := Option.bind_eq_some_iff.1 h
    exact ite_elim h (fun _ h => by cases h) fun h => som h rfl
  refine ite_elim h (fun e _ => absurd e h18) fun h => ?_
  refine ite_elim h (fun _ h => mp h fun _ => rfl) fun h => ?_
  refine ite_elim h (fun _ h => ?_) fun h => ?_
  · obtain ⟨x, _, h⟩ := Option.bind_eq_some_iff.1 h
    exact ite_elim h (fun _ h => by cases h) fun h => som h rfl
  refine ite_elim h (fun _ h => ?_) fun h => ?_
  · refine ite_elim h (fun _ h => mp h fun _ => rfl) fun h => ?_
    obtain ⟨x, _, h⟩ := Option.bind_eq_some_iff.1 h
    exact mp h fun _ => rfl
  refine ite_elim h (fun _ h => mp h fun _ => rfl) fun h => ?_
  refine ite_elim h (fun _ h => ?_) fun h => ?_
  · obtain ⟨x, _, h⟩ := Option.bind_eq_some_iff.1 h
    exact ite_elim h (fun _ h => by cases h) fun h => som h rfl
  refine ite_elim h (fun _ h => som h rfl) fun h => ?_
  refine ite_elim h (fun _ h => ?_) fun h => som h rfl
  exact ite_elim h (fun _ h => som h rfl) fun h => by cases h

set_option maxRecDepth 100000 in
set_option maxHeartbeats 8000000 in
theorem sh_round {w0 w : World} {base : Nat} {C : Array Value} {g m eB mB : Nat} {T : TypeId} {fr : Nat × Nat} {k5 : Value} {tot : Option SH} {Q0 : Exit → Act → World → Prop} {a : Act} (hg : w0.heap[g]? = some (.cells C T fr)) (hgm : g ≠ m) (hge : g ≠ eB) (hgb : g ≠ mB) (hme : m ≠ eB) (hmb : m ≠ mB) (heb : eB ≠ mB)
    (hbase : base ≤ w0.heap.size)
    (hexit : ∀ f a' w', tot = some f → SHAt w' base C g m f → Fs [m, eB, mB] w0 w' → a'.defers = [] → a'.tmps.size = 254 → Q0 (.exit 0) a' w')
    (hret : ∀ a' w', tot = none → Fs [m, eB, mB] w0 w' → a'.defers = [] → a'.tmps[4]? = some (.bool false) → Q0 .ret a' w')
    (hI : ShInv w0 base C g m eB mB k5 tot a w) :
    Code.wp Try.prog shBody (Exit.then (fun a' w'' => ShInv w0 base C g m eB mB k5 tot a' w'' ∧ cellLen w'' eB < cellLen w eB) Q0) a w := by
  obtain ⟨hdf, hsz, h0, h5, h6, h7, f, seen, n, rest, v, hS, hE, hv, hM, hn, htot, h18, hF, hlen⟩ := hI
  obtain ⟨s, dl⟩ := a
  simp only at hdf hsz h0 h5 h6 h7
  subst hdf
  obtain ⟨z, rfl⟩ := arr254 s hsz
  have e0 : z 0 = .pointer (some ⟨m, 0, none⟩) := Option.some.inj h0
  have e5 : z 5 = k5 := Option.some.inj h5
  have e6 : z 6 = .pointer (some ⟨eB, 0, none⟩) := Option.some.inj h6
  have e7 : z 7 = .map (some mB) := Option.some.inj h7
  rw [e0, e5, e6, e7]
  clear hsz h0 h5 h6 h7 e0 e5 e6 e7
  have hgl := lt_of_heap hg
  have hsw := hF.size
  have hel := lt_of_heap hE
  have hml := hS.lt
  obtain ⟨es0, kk0, hMh⟩ := hM.map
  have hmbl : mB < w.heap.size := (Array.getElem?_eq_some_iff.1 hMh).1
  have HG := Lib.hid ((hF.keep g hgl (by simp; omega)).trans hg)
  have HS := Lib.hid hS
  have HE := Lib.hid hE
  have HV := Lib.hid hv
  have HM := Lib.hid hM
  have HTOT := Lib.hid htot
  have H18 := Lib.hid h18
  have HF := Lib.hid hF
  have HEX := Lib.hid hexit
  have HRT := Lib.hid hret
  have HCL := Lib.hid (cellLen_of hE hv)
  have ce := cell_head hE
  clear hg hexit hret hS hE hv hM htot h18 hF hMh
  conv => arg 2; whnf
  go_wp2_with fail
  refine (empty_any _ HV.out).mono ?_
  rintro e w2 ⟨rfl, rfl⟩
  by_cases hr0 : rest = []
  · subst hr0
    have ht : tot = some f := by
      rw [← HTOT.out]; cases n <;> rfl
    have HT := Lib.hid ht
    clear ht
    simp only [List.isEmpty_nil]
    go_wp2_with fail
    exact HEX.out f _ _ HT.out HS.out HF.out rfl rfl
  · have he0 : rest.isEmpty = false := by simpa using hr0
    rw [he0]
    obtain ⟨n, rfl⟩ : ∃ n', n = n' + 1 := ⟨n - 1, by have := List.length_pos_iff.2 hr0; omega⟩
    have ht1 := shExts_succ (n := n) (seen := seen) (f := f) hr0
    rw [HTOT.out] at ht1
    have HT1 := Lib.hid ht1
    clear ht1 he0
    have htl : w.heap.size ≠ eB := by omega
    have htm : w.heap.size ≠ m := by omega
    have htg : w.heap.size ≠ g := by omega
    obtain ⟨tB, htB⟩ : ∃ x, x = w.heap.size := ⟨_, rfl⟩
    obtain ⟨wA, hwA⟩ : ∃ x, x = (w.alloc (.cells #[.int .u16 0] 35)).alloc (.cells #[.slice none 0 0] 152) := ⟨_, rfl⟩
    have hAf : Fs [] w wA := by rw [hwA]; exact ((Fs.refl [] w).push _).push _
    have hAt : wA.heap[tB]? = some (.cells #[.int .u16 0] 35 (0, 0)) := by rw [hwA, htB]; exact heap_push (heap_alloc_new _ _)
    have hAd : wA.heap[tB + 1]? = some (.cells #[.slice none 0 0] 152 (0, 0)) := by
      have h := heap_alloc_new (w.alloc (.cells #[.int .u16 0] 35)) (.cells #[.slice none 0 0] 152)
      rw [World.size_alloc] at h
      rw [hwA, htB]; exact h
    have hAs : wA.heap.size = tB + 2 := by rw [hwA, htB]; simp
    have HA := Lib.hid hwA
    have HAF := Lib.hid hAf
    have HAT := Lib.hid hAt
    have HAD := Lib.hid hAd
    have HAE := Lib.hid ((hAf.keep eB hel (by simp)).trans HE.out)
    have HAG := Lib.hid ((hAf.keep g (by omega) (by simp)).trans HG.out)
    have HASZ := Lib.hid hAs
    have HTB := Lib.hid htB
    have hetb : eB ≠ tB := by omega
    have hedb : eB ≠ tB + 1 := by omega
    have hmtb : m ≠ tB := by omega
    have hmdb : m ≠ tB + 1 := by omega
    have hgtb : g ≠ tB := by omega
    have hgdb : g ≠ tB + 1 := by omega
    have hbtb : mB ≠ tB := by omega
    have hbdb : mB ≠ tB + 1 := by omega
    have htbl : w.heap.size ≤ tB := by omega
    clear hwA hAf hAt hAd hAs htB htl htm htg
    cases hr : rd 2 rest with
    | none =>
      have HR := Lib.hid hr
      have HTN := Lib.hid (show tot = none by rw [HT1.out, hr]; rfl)
      clear hr
      go_wp2_with fail
      rw [← HA.out]
      refine (ru16_not _ wA HR.out HV.out HAE.out).mono ?_
      rintro e wx ⟨rfl, hfx⟩
      have HFX := Lib.hid (HF.out.trans ((HAF.out.mono (by simp)).trans (hfx.mono (by simp))))
      clear hfx
      go_wp2_with fail
      exact HRT.out _ _ HTN.out HFX.out rfl rfl
    | some y1 =>
      obtain ⟨t, r1⟩ := y1
      have HR := Lib.hid hr
      have htl : t.length = 2 := (rd_some hr).2
      have htb : be t < 65536 := by have h := be_lt t; rw [htl] at h; exact h
      have hrl1 : rest.length = 2 + r1.length := by rw [(rd_some hr).1]; simp [htl]
      clear hr
      go_wp2_with fail
      rw [← HTB.out, ← HA.out]
      refine (ru16_at wA HR.out HAG.out HV.out HAE.out HAT.out hge hetb).mono ?_
      rintro e w1 ⟨v1, rfl, hv1, hE1, hT1, hf1⟩
      have HF1 : Hid (Fs [eB] w w1) := ((HAF.out.mono (l' := [tB, eB]) (by simp)).trans (hf1.mono (by simp))).fresh htbl
      have HG1 := Lib.hid ((hf1.keep g (by have := HASZ.out; omega) (by simp; omega)).trans HAG.out)
      have HD1 := Lib.hid ((hf1.keep (tB + 1) (by have := HASZ.out; omega) (by simp; omega)).trans HAD.out)
      have hs1 : tB + 2 ≤ w1.heap.size := by have := HASZ.out; have := hf1.size; omega
      have HV1 := Lib.hid hv1
      have HE1 := Lib.hid hE1
      have HT2 := Lib.hid hT1
      clear hv1 hE1 hT1 hf1 ce
      cases hr2 : rdv 2 r1 with
      | none =>
        have HR2 := Lib.hid hr2
        have HTN := Lib.hid (show tot = none by rw [HT1.out, HR.out, Option.bind_some, hr2]; rfl)
        clear hr2
        go_wp2_with fail
        refine (r16_not _ w1 HR2.out HG1.out HV1.out HE1.out hge).mono ?_
        rintro e wx ⟨rfl, hfx⟩
        have HFX := Lib.hid (HF.out.trans ((HF1.out.mono (by simp)).trans (hfx.mono (by simp))))
        clear hfx
        go_wp2_with fail
        exact HRT.out _ _ HTN.out HFX.out rfl rfl
      | some y2 =>
        obtain ⟨d, r2⟩ := y2
        have HR2 := Lib.hid hr2
        have hrl2 : r1.length = 2 + d.length + r2.length := by rw [(rdv_some hr2).1]; simp [en_length]; omega
        clear hr2
        go_wp2_with fail
        refine (r16_at w1 HR2.out HG1.out HV1.out HE1.out HD1.out hge hedb).mono ?_
        rintro e w2 ⟨vd, v2, rfl, hvd, hv2, hE2, hD2, hf2⟩
        have HF2 : Hid (Fs [eB] w w2) := ((HF1.out.mono (l' := [tB + 1, eB]) (by simp)).trans (hf2.mono (by simp))).fresh (by omega)
        have HG2 := Lib.hid ((hf2.keep g (by omega) (by simp; omega)).trans HG1.out)
        have HT3 := Lib.hid ((hf2.keep tB (by omega) (by simp; omega)).trans HT2.out)
        have hs2 : tB + 2 ≤ w2.heap.size := by have := hf2.size; omega
        have HM2 := Lib.hid (HM.out.fs HF2.out (by simp; omega))
        have HS2 := Lib.hid (HS.out.fs HF2.out (by simp; omega) (Odd.cons HE.out (by decide) (by decide) (Odd.nil _)))
        have HVD := Lib.hid hvd
        have HV2 := Lib.hid hv2
        have HE2 := Lib.hid hE2
        have HD2 := Lib.hid hD2
        have ct := cell_head HT3.out
        have hlook := seen_look HM2.out (be t) htb
        clear hvd hv2 hE2 hD2 hf2
        by_cases hin : be t ∈ seen
        · have HTN := Lib.hid (show tot = none by rw [HT1.out, HR.out, Option.bind_some, HR2.out, Option.bind_some, if_pos hin])
          rw [decide_eq_true hin] at hlook
          have HFX := Lib.hid (HF.out.trans (HF2.out.mono (by simp)))
          clear hin
          go_wp2_with fail
          exact HRT.out _ _ HTN.out HFX.out rfl rfl
        · have ht2 : tot = (shExt f (be t) d).bind fun y => if y.2 = [] then shExts n (be t :: seen) y.1 r2 else none := by
            rw [HT1.out, HR.out, Option.bind_some, HR2.out, Option.bind_some, if_neg hin]
          have HTT := Lib.hid ht2
          rw [decide_eq_false hin] at hlook
          have h18b := H18.out
          obtain ⟨w3, hput, hM3, hf3⟩ := seen_put HM2.out (be t) htb (by omega)
          have HM3 := Lib.hid hM3
          have HF3 := Lib.hid hf3
          have hoddm : Odd w2 [mB] := by
            obtain ⟨es, kk, h⟩ := HM2.out.map
            exact Odd.map h (Odd.nil _)
          have HS3 := Lib.hid (HS2.out.fs hf3 (by simp; omega) hoddm)
          have HD3 := Lib.hid ((hf3.keep (tB + 1) (by omega) (by simp; omega)).trans HD2.out)
          have HE3 := Lib.hid ((hf3.keep eB (by have := HF2.out.size; omega) (by simp; omega)).trans HE2.out)
          have HG3 := Lib.hid ((hf3.keep g (by omega) (by simp; omega)).trans HG2.out)
          have ct3 : w3.cell? ⟨tB, 0, none⟩ = some (.int .u16 (be t : Nat)) := cell_head ((hf3.keep tB (by omega) (by simp; omega)).trans HT3.out)
          have hs3 : w2.heap.size ≤ w3.heap.size := hf3.size
          have H18B : Hid (be t = 18 → f.scts = []) := fun e => h18b (e ▸ hin)
          have HIN := Lib.hid hin
          clear ht2 hM3 hf3 hoddm h18b hin
          have HFA : Hid (Fs [m, eB, mB] w0 w3) := HF.out.trans ((HF2.out.mono (by simp)).trans (HF3.out.mono (by simp)))
          go_upto_block 2 with fail
          refine Code.wp_mono (Q := SwOut w3 base C g m (tB + 1) k5 (.pointer (some ⟨eB, 0, none⟩)) (.map (some mB)) f (be t) d) ?_
            (sw_ok (be t) rfl rfl rfl rfl rfl rfl rfl HS3.out HG3.out HD3.out HVD.out hgm hgdb hmdb (by omega) (by omega) H18B.out)
          rintro e ⟨s', dl'⟩ w4 ⟨hdf, hf4, hcase⟩
          simp only at hdf
          subst hdf
          have HF4 : Hid (Fs [m, eB, mB] w0 w4) := ((HFA.out.mono (l' := [tB + 1, m, eB, mB]) (by simp)).trans (hf4.mono (by simp))).fresh (by omega)
          rcases hcase with ⟨rfl, hno, h4, hsz4⟩ | ⟨f4, r4, hyes, ⟨hsz4, k0, k5', k6', k7', k9'⟩, hS4, hrest⟩
          · have HTN := Lib.hid (show tot = none by rw [HTT.out, hno]; rfl)
            simp only [Exit.then, Exit.inBlock]
            exact HRT.out _ _ HTN.out HF4.out rfl h4
          · have hsc : 18 ∉ be t :: seen → f4.scts = [] := fun hn18 => by
              rw [shExt_scts hyes (fun e => hn18 (by simp [e]))]
              exact H18.out (fun h => hn18 (by simp [h]))
            have hM4 := HM3.out.fs hf4 (by simp; omega)
            have hE4 := (hf4.keep eB (by have := HF2.out.size; omega) (by simp; omega)).trans HE3.out
            have hfin : ∀ (a' : Act) (w' : World), a'.defers = [] → a'.tmps.size = 254 → a'.tmps[0]? = some (.pointer (some ⟨m, 0, none⟩)) → a'.tmps[5]? = some k5 → a'.tmps[6]? = some (.pointer (some ⟨eB, 0, none⟩)) → a'.tmps[7]? = some (.map (some mB)) → w' = w4 → r4 = [] →
                ShInv w0 base C g m eB mB k5 tot a' w' ∧ cellLen w' eB < cellLen w eB := by
              rintro a' w' x1 x2 x3 x4 x5 x6 rfl rfl
              refine ⟨⟨x1, x2, x3, x4, x5, x6, f4, be t :: seen, n, r2, v2, hS4, hE4, HV2.out, hM4, by omega, ?_, hsc, HF4.out, by simp; omega⟩, ?_⟩
              · rw [HTT.out, hyes]; simp
              · rw [cellLen_of hE4 HV2.out, HCL.out]; omega
            rcases hrest with ⟨rfl, hr4⟩ | ⟨rfl, v4, hD4, hv4⟩
            · simp only [Exit.then, Exit.inBlock]
              rw [if_pos trivial]
              exact hfin _ _ rfl hsz4 k0 k5' k6' k7' rfl hr4
            · simp only [Exit.then, Exit.inBlock]
              obtain ⟨z', rfl⟩ := arr254 s' hsz4
              have e0 : z' 0 = .pointer (some ⟨m, 0, none⟩) := Option.some.inj k0
              have e5 : z' 5 = k5 := Option.some.inj k5'
              have e6 : z' 6 = .pointer (some ⟨eB, 0, none⟩) := Option.some.inj k6'
              have e7 : z' 7 = .map (some mB) := Option.some.inj k7'
              have e9 : z' 9 = .pointer (some ⟨tB + 1, 0, none⟩) := Option.some.inj k9'
              rw [e0, e5, e6, e7, e9]
              clear hsz4 k0 k5' k6' k7' k9' e0 e5 e6 e7 e9
              have HV4 := Lib.hid hv4
              have cd := cell_head hD4
              have HFIN := Lib.hid hfin
              have HY := Lib.hid hyes
              clear hv4 hD4 hfin hyes hS4 hM4 hE4 hsc hf4 hput hlook ct ct3
              go_wp2_with fail
              refine (empty_any _ HV4.out).mono ?_
              rintro e wy ⟨rfl, rfl⟩
              by_cases hr4 : r4 = []
              · subst hr4
                simp only [List.isEmpty_nil]
                go_wp2_with fail
                exact HFIN.out _ _ rfl rfl rfl rfl rfl rfl rfl (by first | rfl | trivial)
              · have he4 : r4.isEmpty = false := by simpa using hr4
                rw [he4]
                have HTN := Lib.hid (show tot = none by rw [HTT.out, HY.out]; simp [hr4])
                clear hr4 he4
                go_wp2_with fail
                exact HRT.out _ _ HTN.out HF4.out rfl rfl


end Go.Proofs.Ytopcljikkdlffaa
