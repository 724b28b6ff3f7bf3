/- A ClientHello's unmarshal: the switch whole, and the round over the extensions. No statement of the seat is proved here. -/
import Derived.Test.YtopcljikkdlffaaGreatX17
import Derived.Test.YtopcljikkdlffaaGreatX18
import Derived.Test.YtopcljikkdlffaaGreatX19
import Derived.Test.YtopcljikkdlffaaGreatX20
import Derived.Test.YtopcljikkdlffaaGreatX21
import Derived.Test.YtopcljikkdlffaaGreatX22
namespace Go.Proofs.YtopcljikkdlffaaGreat
open Go.RowKit

theorem ch_sw_ok {w0 w : World} {C : Array Value} {g m eB tB dB mb : Nat} {seen : List Nat} {ex : List UInt8} {f : CH} {d : List UInt8} {s : Array Value} (ty : Nat) (hF : ChFrame s m eB mb) (h11 : s[11]? = some (.pointer (some ⟨dB, 0, none⟩))) (h129 : s[129]? = some (.int .u16 (ty : Nat))) (hm : f.most d.length)
    (hB : Bn w0 C g m (chBs C g m eB tB ex ty f ++ [(dB, [.vw d])]) (some (mb, seen)) w) : Code.wp Tryz.prog chSwitch (ChSw w0 C g m eB dB mb seen (chBs C g m eB tB ex ty) f ty d ex) ⟨s, []⟩ w := by
  obtain ⟨hs, h0, h8, h9⟩ := hF
  obtain ⟨z, rfl⟩ := arr500 s hs
  have e0 : z 0 = .pointer (some ⟨m, 0, none⟩) := Option.some.inj h0
  have e8 : z 8 = .pointer (some ⟨eB, 0, none⟩) := Option.some.inj h8
  have e9 : z 9 = .map (some mb) := Option.some.inj h9
  have e11 : z 11 = .pointer (some ⟨dB, 0, none⟩) := Option.some.inj h11
  have e129 : z 129 = .int .u16 (ty : Nat) := Option.some.inj h129
  rw [e0, e8, e9, e11, e129]
  clear hs h0 h8 h9 h11 h129 e0 e8 e9 e11 e129
  have hd : d.length ≤ 4294967296 := by have := hm.exts; omega
  by_cases n0 : ty = 0
  · subst n0; exact ch_sw_0 z hd hB
  by_cases n5 : ty = 5
  · subst n5; exact ch_sw_5 z hB
  by_cases n10 : ty = 10
  · subst n10; exact ch_sw_10 z (by have := hm.curves; omega) hB
  by_cases n11 : ty = 11
  · subst n11; exact ch_sw_11 z hB
  by_cases n35 : ty = 35
  · subst n35; exact ch_sw_35 z hd hB
  by_cases n13 : ty = 13
  · subst n13; exact ch_sw_13 z (by have := hm.sigs; omega) hB
  by_cases n50 : ty = 50
  · subst n50; exact ch_sw_50 z (by have := hm.sigsC; omega) hB
  by_cases n65281 : ty = 65281
  · subst n65281; exact ch_sw_65281 z hB
  by_cases n23 : ty = 23
  · subst n23; exact ch_sw_23 z hB
  by_cases n16 : ty = 16
  · subst n16; exact ch_sw_16 z (by have := hm.alpn; omega) hB
  by_cases n18 : ty = 18
  · subst n18; exact ch_sw_18 z hB
  by_cases n43 : ty = 43
  · subst n43; exact ch_sw_43 z (by have := hm.vers13; omega) hB
  by_cases n44 : ty = 44
  · subst n44; exact ch_sw_44 z hB
  by_cases n51 : ty = 51
  · subst n51; exact ch_sw_51 z (by have := hm.shares; omega) hB
  by_cases n42 : ty = 42
  · subst n42; exact ch_sw_42 z hB
  by_cases n45 : ty = 45
  · subst n45; exact ch_sw_45 z hB
  by_cases n57 : ty = 57
  · subst n57; exact ch_sw_57 z hd hB
  by_cases n41 : ty = 41
  · subst n41; exact ch_sw_41 z (by have := hm.psks; omega) (by have := hm.binders; omega) hB
  by_cases n65037 : ty = 65037
  · subst n65037; exact ch_sw_65037 z hd hB
  exact ch_sw_other z ty ⟨n0, n5, n10, n11, n35, n13, n50, n65281, n23, n16, n18, n43, n44, n51, n42, n45, n57, n41, n65037⟩ hB

theorem CH.most.ext {f : CH} {n t : Nat} (h : f.most (n + 1)) : ({ f with exts := f.exts ++ [t] } : CH).most n := by
  obtain ⟨h1, h2, h3, h4, h5, h6, h7, h8, h9, h10⟩ := h
  constructor <;> (try simp only [List.length_append, List.length_cons, List.length_nil]) <;> (try dsimp only) <;> omega

/-- What holds ahead of each extension. -/
def ChInv (w0 : World) (C : Array Value) (g m eB mb : Nat) (tot : Option CH) (a : Act) (w : World) : Prop :=
  a.defers = [] ∧ ChFrame a.tmps m eB mb ∧ ∃ (f : CH) (ex : List UInt8) (n : Nat) (seen : List Nat), Bn w0 C g m [(m, chF C g f), (eB, [.vw ex])] (some (mb, seen)) w ∧ ex.length ≤ n ∧ chExts n seen f ex = tot ∧ f.most ex.length ∧ seen.length + ex.length ≤ 65536

set_option maxRecDepth 100000 in
set_option maxHeartbeats 8000000 in
theorem ch_round {w0 w : World} {C : Array Value} {g m eB mb : Nat} {tot : Option CH} {Q0 : Exit → Act → World → Prop} {a : Act}
    (hQ0 : ∀ (c : List PanicEntry) (a : Act) (d : Option Tmp) (v : Value) (w : World), Q0 (.panic c) (a.put d v) w → Q0 (.panic c) a w)
    (hexit : ∀ f a' w' seen, tot = some f → Bn w0 C g m [(m, chF C g f), (eB, [.vw []])] (some (mb, seen)) w' → a'.defers = [] → a'.tmps.size = 500 → Q0 (.exit 2) a' w')
    (hret : ∀ a' w', tot = none → Fs [m] w0 w' → a'.defers = [] → a'.tmps[4]? = some (.bool false) → Q0 .ret a' w')
    (hI : ChInv w0 C g m eB mb tot a w) :
    Code.wp Tryz.prog chExtBody (Exit.then (fun a' w'' => ChInv w0 C g m eB mb tot a' w'' ∧ cellLen w'' eB < cellLen w eB) Q0) a w := by
  obtain ⟨hdf, ⟨hsz, h0, h8, h9⟩, f, ex, n, seen, hb, hn, htot, hmost, hseen⟩ := hI
  obtain ⟨s, dl⟩ := a
  simp only at hdf hsz h0 h8 h9
  subst hdf
  obtain ⟨z, rfl⟩ := arr500 s hsz
  have e0 : z 0 = .pointer (some ⟨m, 0, none⟩) := Option.some.inj h0
  have e8 : z 8 = .pointer (some ⟨eB, 0, none⟩) := Option.some.inj h8
  have e9 : z 9 = .map (some mb) := Option.some.inj h9
  rw [e0, e8, e9]
  clear hsz h0 h8 h9 e0 e8 e9
  have HB := Lib.hid hb
  have HTOT := Lib.hid htot
  have HEX := Lib.hid hexit
  have HRT := Lib.hid hret
  have HQ := Lib.hid hQ0
  have HMO := Lib.hid hmost
  have hxn := hmost.exts
  have HCL := Lib.hid (hb.len (b := 1) (F := []) rfl)
  obtain ⟨vs, hvs, hV⟩ := hb.vw (b := 1) (i := 0) rfl rfl
  have HV := Lib.hid hV
  clear hexit hret hb htot hV hQ0 hmost
  conv => arg 2; whnf
  go_wp2_with fail
  refine (empty_any _ HV.out).mono ?_
  rintro e w2 ⟨rfl, rfl⟩
  by_cases hr0 : ex = []
  · subst hr0
    have ht : tot = some f := by rw [← HTOT.out, chExts_nil]
    have HT := Lib.hid ht
    clear ht hvs HV
    simp only [List.isEmpty_nil]
    go_wp2_with fail
    exact HEX.out f _ _ _ HT.out HB.out rfl rfl
  · have he0 : ex.isEmpty = false := by simpa using hr0
    rw [he0]
    obtain ⟨n, rfl⟩ : ∃ n', n = n' + 1 := ⟨n - 1, by have := List.length_pos_iff.2 hr0; omega⟩
    have ht1 := chExts_succ (n := n) (seen := seen) (f := f) hr0
    rw [HTOT.out] at ht1
    have HT1 := Lib.hid ht1
    clear ht1 he0 hr0 hvs HV
    go_wp2_with fail
    have HB1 := Lib.hid ((HB.out.one (.int .u16 0) 23 .any rfl trivial).one (.slice none 0 0) 69 .any rfl trivial)
    rw [World.size_alloc] at HB1
    obtain ⟨tB, htB⟩ : ∃ x, x = w.heap.size := ⟨_, rfl⟩
    rw [← htB] at HB1 ⊢
    obtain ⟨dB, hdB⟩ : ∃ x, x = tB + 1 := ⟨_, rfl⟩
    rw [← hdB] at HB1 ⊢
    clear htB hdB
    cases hr : rd 2 ex with
    | none =>
      have HR := Lib.hid hr
      have HTN := Lib.hid (show tot = none by rw [HT1.out, hr]; rfl)
      clear hr
      refine (bru16_no HB1.out HR.out (b := 1) (i := 0) rfl rfl _).mono ?_
      rintro e wx ⟨rfl, hf⟩
      have HF := Lib.hid hf
      clear hf
      go_wp2_with fail
      exact HRT.out _ _ HTN.out HF.out rfl rfl
    | some y =>
      obtain ⟨t, r1⟩ := y
      have HR := Lib.hid hr
      have htl : t.length = 2 := (rd_some hr).2
      have htb : be t < 65536 := by have h := be_lt t; rw [htl] at h; exact h
      have hrl1 : ex.length = 2 + r1.length := by rw [(rd_some hr).1]; simp [htl]
      clear hr
      refine (bru16 HB1.out HR.out (b := 1) (i := 0) rfl rfl (c := 2) (j := 0) rfl rfl (by decide)).mono ?_
      rintro e w1 ⟨rfl, hb⟩
      have hb : Bn w0 C g m (chBs C g m eB tB r1 (be t) f ++ [(dB, [.any])]) (some (mb, seen)) w1 := hb
      have HB2 := Lib.hid hb
      clear hb
      go_wp2_with fail
      cases hr2 : rdv 2 r1 with
      | none =>
        have HR2 := Lib.hid hr2
        have HTN := Lib.hid (show tot = none by rw [HT1.out, HR.out, Option.bind_some, hr2]; rfl)
        clear hr2
        refine (br16_no HB2.out HR2.out (b := 1) (i := 0) rfl rfl _).mono ?_
        rintro e wx ⟨rfl, hf⟩
        have HF := Lib.hid hf
        clear hf
        go_wp2_with fail
        exact HRT.out _ _ HTN.out HF.out rfl rfl
      | some y =>
        obtain ⟨d, r2⟩ := y
        have HR2 := Lib.hid hr2
        have hrl2 : r1.length = 2 + d.length + r2.length := by rw [(rdv_some hr2).1]; simp [en_length]; omega
        clear hr2
        refine (br16 HB2.out HR2.out (b := 1) (i := 0) rfl rfl (c := 3) (j := 0) rfl rfl (.vw d) rfl (fun _ h => h) (by decide)).mono ?_
        rintro e w2 ⟨rfl, hb⟩
        have hb : Bn w0 C g m (chBs C g m eB tB r2 (be t) f ++ [(dB, [.vw d])]) (some (mb, seen)) w2 := hb
        have HB3 := Lib.hid hb
        have ct := hb.val (b := 2) (i := 0) rfl rfl
        have hlook := seen_look (hb.maps _ _ rfl).1 (be t) htb
        clear hb
        by_cases hin : be t ∈ seen
        · have HTN := Lib.hid (show tot = none by rw [HT1.out, HR.out, Option.bind_some, HR2.out, Option.bind_some, if_pos hin])
          rw [decide_eq_true hin] at hlook
          clear hin
          go_wp2_with fail
          exact HRT.out _ _ HTN.out HB3.out.fs rfl rfl
        · have HTT := Lib.hid (show tot = (chExt { f with exts := f.exts ++ [be t] } (be t) d r2).bind fun y => if y.2 = [] then chExts n (be t :: seen) y.1 r2 else none by
            rw [HT1.out, HR.out, Option.bind_some, HR2.out, Option.bind_some, if_neg hin])
          rw [decide_eq_false hin] at hlook
          obtain ⟨w3, hput, hb⟩ := HB3.out.seen (be t) htb (by omega)
          have HB4 := Lib.hid hb
          have hu := hb.val (b := 2) (i := 0) rfl rfl
          clear hb hin
          go_wp2_with fail
          obtain ⟨i0, hi, hz0, hz1, hz2⟩ := info_parts Tryz.info23b
          obtain ⟨vf, us, v', w', hvf, ⟨ao, co, rfl⟩, hRold, hrun, hv4, hz4, ⟨ao', co', rfl⟩, hoth, hB'⟩ := (((HB4.out.drew).push (.cells #[.int .u16 (be t : Nat)] 23)).grow (b := 0) (i := 28) rfl rfl 24 24 i0 (.int .u16 0) 2 Tryz.underlying24 hi hz0 hz1 hz2 rfl (by decide) ⟨w3.heap.size, 0, none⟩ 1 1 [.int .u16 (be t : Nat)] rfl
            (fun j u hu => by
              match j, hu with
              | 0, hu => simp at hu; subst hu; exact World.cell?_alloc_new _ _ _ _) (fun u hu => by simp at hu; subst hu; rfl) (by show f.exts.length + 1 ≤ maxLen; unfold maxLen; omega) (by show (f.exts.length + 1) * 2 ≤ 140737488355328; omega))
          have hvf0 : w3.cell? ⟨m, 28, none⟩ = some (.slice ao f.exts.length co) := by
            rw [← hvf]; exact (World.cell?_alloc_lt _ _ _ (HB4.out.lt (b := 0) rfl)).symm
          have hq4 : w'.cell? ⟨tB, 0, none⟩ = some (.int .u16 (be t : Nat)) := ((hoth 2 _ _ 0 rfl).trans (World.cell?_alloc_lt _ _ _ (HB4.out.lt (b := 2) rfl))).trans hu
          have HN := Lib.hid (hB' (ShowU (f.exts ++ [be t])) (f.exts ++ [be t]).length (by simp) (hRold.1.snoc))
          have HRUN := Lib.hid hrun
          have hml0 := HB4.out.lt (b := 0) rfl
          have hql0 := HB4.out.lt (b := 2) rfl
          clear hrun hoth hB' hRold hvf
          refine region_ord [(0, true), (1, true), (2, true), (3, true), (4, true), (5, true), (6, false), (7, false), (8, true), (9, true), (10, false)] (fun w' => w'.cell? ⟨m, 28, none⟩ = some (.slice ao f.exts.length co) ∧ w'.cell? ⟨tB, 0, none⟩ = some (.int .u16 (be t : Nat))) mixed (by kernel_rfl) (by kernel_rfl) rfl (by intro c' a' d' v' w' h; simp only [Exit.then, Exit.inBlock] at h ⊢; exact HQ.out _ _ _ _ _ h) ⟨hvf0, hu⟩ ?_
          iterate 6 (apply wpOrd_pure rfl rfl; apply Exists.intro; refine ⟨fun w' hS => ?_, ?_⟩; (· (have hS1 := hS.1; have hS2 := hS.2; clear hS; first | (go_simp; done) | (go_simp; with_reducible rfl))); simp only [List.getElem_toArray, List.getElem_cons_succ, List.getElem_cons_zero, Act.put, List.setIfInBounds_toArray, List.set_cons_zero, List.set_cons_succ])
          refine wpOrd_run rfl rfl (fun K hK => ?_)
          go_simp
          refine hK _ _ (fun _ => ⟨(World.cell?_alloc_lt _ _ _ hml0).trans hvf0, (World.cell?_alloc_lt _ _ _ hql0).trans hu⟩) ?_
          clear hK K
          refine wpOrd_run rfl rfl (fun K hK => ?_)
          refine wp_append_run (.tmp 123) (.tmp 125) 24 rfl _ _ rfl rfl HRUN.out ?_
          refine hK _ _ (fun _ => ⟨hv4, hq4⟩) ?_
          clear hK K
          simp only [List.getElem_toArray, List.getElem_cons_succ, List.getElem_cons_zero, Act.put, List.setIfInBounds_toArray, List.set_cons_zero, List.set_cons_succ]
          iterate 2 (apply wpOrd_pure rfl rfl; apply Exists.intro; refine ⟨fun w' hS => ?_, ?_⟩; (· (have hS1 := hS.1; have hS2 := hS.2; clear hS; first | (go_simp; done) | (go_simp; with_reducible rfl))); simp only [List.getElem_toArray, List.getElem_cons_succ, List.getElem_cons_zero, Act.put, List.setIfInBounds_toArray, List.set_cons_zero, List.set_cons_succ])
          refine wpOrd_last rfl rfl (by kernel_rfl) (fun K hK => ?_)
          simp only [List.getElem_toArray, List.getElem_cons_succ, List.getElem_cons_zero]
          go_simp
          refine hK _ _ ?_
          refine wpOrd_nil ?_
          clear hK K
          have HB7 := HN
          clear HN HRUN hv4 hz4 hq4 hvf0
          have hb : Bn w0 C g m (chBs C g m eB tB r2 (be t) { f with exts := f.exts ++ [be t] } ++ [(dB, [.vw d])]) (some (mb, be t :: seen)) _ := HB7.out
          obtain ⟨wA, hwA⟩ : ∃ x : World, x = w'.setCell ⟨m, 28, none⟩ (.slice ao' (f.exts.length + 1) co') := ⟨_, rfl⟩
          rw [← hwA] at hb ⊢
          have HBA := Lib.hid hb
          have ctA := hb.val (b := 2) (i := 0) rfl rfl
          have hmA : ({ f with exts := f.exts ++ [be t] } : CH).most (d.length + r2.length) := CH.most.ext (HMO.out.le (by omega))
          have HMA := Lib.hid hmA
          clear hb hwA HB7 hu hlook hput ct hmA
          go_upto_block 4 with fail
          refine Code.wp_mono (Q := ChSw w0 C g m eB dB mb (be t :: seen) (chBs C g m eB tB r2 (be t)) { f with exts := f.exts ++ [be t] } (be t) d r2) ?_ (ch_sw_ok (be t) ⟨rfl, rfl, rfl, rfl⟩ rfl rfl (HMA.out.le (by omega)) HBA.out)
          rintro e ⟨s', dl'⟩ w4 ⟨hdf, hsz4, hcase⟩
          simp only at hdf hsz4
          subst hdf
          rcases hcase with ⟨rfl, hno, h4, hfs⟩ | ⟨f4, r4, hyes, hfr, hrest⟩
          · have hTN : tot = none := by rw [HTT.out, hno]; rfl
            simp only [Exit.then, Exit.inBlock]
            exact HRT.out _ _ hTN hfs rfl h4
          · have hm4 := chExt_most hyes HMA.out
            have hfin : ∀ (a' : Act) (w' : World), a'.defers = [] → ChFrame a'.tmps m eB mb → Bn w0 C g m [(m, chF C g f4), (eB, [.vw r2])] (some (mb, be t :: seen)) w' → r4 = [] →
                ChInv w0 C g m eB mb tot a' w' ∧ cellLen w' eB < cellLen w eB := by
              rintro a' w' x1 x2 hb4 rfl
              refine ⟨⟨x1, x2, f4, r2, n, be t :: seen, hb4, by omega, ?_, hm4, by simp; omega⟩, ?_⟩
              · rw [HTT.out, hyes]; simp
              · rw [hb4.len (b := 1) (F := []) rfl, HCL.out]; omega
            rcases hrest with ⟨rfl, hr4, hb4⟩ | ⟨rfl, k11, hb4⟩
            · simp only [Exit.then, Exit.inBlock]
              exact hfin _ _ rfl hfr (hb4.take 2) hr4
            · simp only [Exit.then, Exit.inBlock]
              obtain ⟨_, k0, k8, k9⟩ := hfr
              obtain ⟨z', rfl⟩ := arr500 s' hsz4
              have e0 : z' 0 = .pointer (some ⟨m, 0, none⟩) := Option.some.inj k0
              have e8 : z' 8 = .pointer (some ⟨eB, 0, none⟩) := Option.some.inj k8
              have e9 : z' 9 = .map (some mb) := Option.some.inj k9
              have e11 : z' 11 = .pointer (some ⟨dB, 0, none⟩) := Option.some.inj k11
              rw [e0, e8, e9, e11]
              have HB8 := Lib.hid hb4
              obtain ⟨vd, cd, hvd⟩ := hb4.vw (b := 3) (i := 0) rfl rfl
              have HVD := Lib.hid hvd
              have HFIN := Lib.hid hfin
              have HY := Lib.hid hyes
              clear hsz4 k0 k8 k9 k11 e0 e8 e9 e11 hb4 hvd hfin hyes hm4 ctA
              go_wp2_with fail
              refine (empty_any _ HVD.out).mono ?_
              rintro e wy ⟨rfl, rfl⟩
              by_cases hr4 : r4 = []
              · subst hr4
                simp only [List.isEmpty_nil]
                go_wp2_with fail
                exact HFIN.out _ _ rfl ⟨rfl, rfl, rfl, rfl⟩ (HB8.out.take 2) (by first | rfl | trivial)
              · have he4 : r4.isEmpty = false := by simpa using hr4
                rw [he4]
                have HTN := Lib.hid (show tot = none by rw [HTT.out, HY.out]; simp [hr4])
                clear hr4 he4
                go_wp2_with fail
                exact HRT.out _ _ HTN.out HB8.out.fs rfl rfl

end Go.Proofs.YtopcljikkdlffaaGreat
