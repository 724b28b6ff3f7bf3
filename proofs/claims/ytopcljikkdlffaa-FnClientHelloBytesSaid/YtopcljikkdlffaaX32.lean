/- The reference reads key shares and pre-shared keys. No statement of the seat is proved here. -/
import Derived.Test.YtopcljikkdlffaaX30
namespace Go.Proofs.Ytopcljikkdlffaa
open Go.RowKit

section
variable {w0 w w' : World} {C : Array Value} {g m : Nat} {F : List FD}

theorem Kt.own {v : Value} {base e size n : Nat} {us : List Value} (hf : Fs (ownList v) w w') (ho : w.ownsRow base e size v n us) (he : e ≠ 80 ∧ e ≠ 85) : Kt [] w w' := by
  refine ⟨hf.size, fun k _ ⟨D, T, fr, hk, ht⟩ => hf.keep k (lt_of_heap hk) fun hm => ?_⟩
  unfold ownList at hm
  rcases ho.2 with ⟨rfl, _⟩ | ⟨p, cap, cur, rfl, _, hh, _⟩
  · cases hm
  · simp only [Value.ownBlock, List.mem_singleton] at hm
    subst hm
    rw [hk] at hh
    simp only [Option.some.injEq, Obj.cells.injEq] at hh
    rcases ht with ht | ht
    · exact he.1 (hh.2.1.symm.trans ht)
    · exact he.2 (hh.2.1.symm.trans ht)

/-- An append to a row of the ClientHello, and its store. -/
theorem Bn.appX (h : Bn w0 C g m [(m, F)] none w) {i e size n : Nat} {R : Value → List Value → Prop} (hi : F[i]? = some (.own e size n R)) (he : e ≠ 80 ∧ e ≠ 85) (t ty : TypeId) (ti : TypeInfo) (z : Value) (bytes : Nat)
    (ht : Try.prog.underlying t = some (.slice e)) (hti : Try.prog.info? e = some ti) (hz : ti.zero = some z) (hsize : ti.size = size) (hby : ti.bytes = bytes) (hzs : z.cells.size = size) (hsz : 0 < size)
    (a : Addr) (mm c : Nat) (news : List Value) (hl : news.length = mm * size) (hnews : ∀ j u, news[j]? = some u → w.cell? (a.add j) = some u) (h1 : ∀ u ∈ news, u.oneCell' = true)
    (h63 : n + mm ≤ maxLen) (hbytes : (n + mm) * bytes ≤ 140737488355328) :
    ∃ ao co us v' w', w.cell? ⟨m, i, none⟩ = some (.slice ao n co) ∧ (R (.slice ao n co) us ∧ us.length = n * size) ∧ (Builtin.append_ #[t, t] ty #[.slice ao n co, .slice (some a) mm c]).run Try.prog w = .ok v' w' ∧
      (∃ ao' co', v' = .slice ao' (n + mm) co') ∧ Kt [] w w' ∧ w'.cell? ⟨m, i, none⟩ = some (.slice ao n co) ∧ w'.frozen? ⟨m, i, none⟩ = false ∧ w'.heap[g]? = w.heap[g]? ∧
      ∀ (R' : Value → List Value → Prop) (n' : Nat), n' = n + mm → R' v' (us ++ news) → Bn w0 C g m [(m, F.set i (.own e size n' R'))] none (w'.setCell ⟨m, i, none⟩ v') := by
  obtain ⟨v, us, v', w', hv, ⟨ao, co, rfl⟩, hR, hrun, hsl, hB, hH, hcell, hF, _, hlt⟩ := h.app (b := 0) rfl hi t ty ti z bytes ht hti hz hsize hby hzs hsz a mm c news hl hnews h1 h63 hbytes
  obtain ⟨v2, us2, hv2, hown, _⟩ := h.own (b := 0) rfl hi
  rw [hv] at hv2
  cases hv2
  have hil : i < F.length := (List.getElem?_eq_some_iff.1 hi).1
  refine ⟨ao, co, us, v', w', hv, hR, hrun, hsl, Kt.own hF hown he, (hcell 0 m F i rfl).trans hv, hB.frozen (b := 0) rfl i, ?_, fun R' n' hn hR' => ?_⟩
  · obtain ⟨T, fr, hg⟩ := h.data
    refine hF.keep g (lt_of_heap hg) fun hm => ?_
    have h2 := h.gl
    have hob : (Value.slice ao n co).ownBlock = some g := by
      unfold ownList at hm
      cases hob : (Value.slice ao n co).ownBlock with
      | none => rw [hob] at hm; cases hm
      | some k => rw [hob] at hm; simp only [List.mem_singleton] at hm; rw [hm]
    have h3 := (hown.lt g hob).1
    omega
  · subst hn
    have hp := hB.put (b := 0) (i := i) (F := F.set i .any) (fo := .any) rfl (by rw [List.getElem?_set_self hil]) hH R' hR'
    have e : (F.set i FD.any).set i (.own e size (n + mm) R') = F.set i (.own e size (n + mm) R') := by simp
    rw [← e]
    exact hp
end

section
variable {w0 w : World} {C : Array Value} {g m x : Nat} {rnd : FD} {f : CH} {st : Nat × List UInt8}

theorem wpStill_skip {P : Program} {ops : Array Oper} {w : World} {Q : Act → Prop} {a : Act} {o : Oper} {rest : List Oper} (hw : Region.wanted o (yielded ops a.tmps) = false) (h : wpStill P ops w Q rest (a.put o.dst undef)) : wpStill P ops w Q (o :: rest) a := by
  unfold wpStill
  rw [hw]
  exact h

theorem ownOK_set {F : List FD} (h : ownOK F = true) {i e size n : Nat} {R : Value → List Value → Prop} (he : e ≠ 80 ∧ e ≠ 85) : ownOK (F.set i (.own e size n R)) = true := by
  unfold ownOK at *
  rw [List.all_eq_true] at *
  intro fd hfd
  rcases List.mem_or_eq_of_mem_set hfd with h1 | h1
  · exact h fd h1
  · subst h1
    simpa using he

theorem rV_share {f : CH} {SH : List (Nat × List UInt8)} {a : Nat} {b : List UInt8} : rV C g rnd { f with shares := SH ++ [(a, b)] } = ((rV C g rnd { f with shares := SH }).set 20 (.own 35 1 (SH.map (·.1) ++ [a]).length (ShowU (SH.map (·.1) ++ [a])))).set 21 (.own 22 1 (SH.map (·.2) ++ [b]).length (ShowW C g (SH.map (·.2) ++ [b]))) := by
  simp only [rV, List.map_append, List.map_cons, List.map_nil]
  rfl
theorem rV_psk {f : CH} {SH : List (List UInt8 × Nat)} {a : List UInt8} {b : Nat} : rV C g rnd { f with psks := SH ++ [(a, b)] } = ((rV C g rnd { f with psks := SH }).set 24 (.own 22 1 (SH.map (·.1) ++ [a]).length (ShowW C g (SH.map (·.1) ++ [a])))).set 25 (.own 143 1 (SH.map (·.2) ++ [b]).length (ShowU4 (SH.map (·.2) ++ [b]))) := by
  simp only [rV, List.map_append, List.map_cons, List.map_nil]
  rfl

set_option maxRecDepth 100000 in
set_option maxHeartbeats 2000000 in
theorem cx_51 (h : Cx w0 w C g m x rnd f st) :
    Calls Try.prog 88 #[.pointer (some ⟨x, 0, none⟩), .int .u16 51, .pointer (some ⟨m, 0, none⟩)] w (CxPost w0 w C g m x rnd (rcext13 51 f st)) := by
  rw [show rcext13 51 f st = ({ f with shares := f.shares ++ (rshares st).1 }, (rshares st).2) from rfl]
  have hxm : x ≠ m := by have := h.hx; have := h.hm; omega
  have hmx : m ≠ x := fun e => hxm e.symm
  have hgx := h.hb.gne h.hx
  have hok := rV_ok (C := C) (g := g) (f := f) h.hr
  obtain ⟨T, fr, hg⟩ := h.hb.data
  have HG := Lib.hid hg
  have HX := Lib.hid h
  clear hg h
  go_enter Try.func88, Try.ntmps88
  go_wp2_with fail
  refine (vec_ok 2 0 65535 w (by omega) HG.out hgx HX.out.ra).mono ?_
  rintro e w1 ⟨u, rfl, hv, hr, hf⟩
  have hl1 := rvec_len (k := 2) (low := 0) (high := 65535) (st := st)
  have HV1 := Lib.hid hv
  obtain ⟨av1, cv1, rfl, _, _⟩ := hv.len
  have HB1 := Lib.hid (HX.out.hb.rd1 (hf.fs (l := [x]) (by simp)) HX.out.hx HX.out.ra HX.out.hm hok)
  have HG1 := Lib.hid ((hf.keep g (lt_of_heap HG.out) hgx).trans HG.out)
  have HR1 := Lib.hid hr
  have HK1 := Lib.hid ((hf.fs (l := [x]) (by simp)).kt.mono (l' := [m, x]) (by simp))
  clear hv hr hf
  have hxl1 := HR1.out.lt
  go_wp2_with fail
  refine (within_ok w1 HV1.out HR1.out).mono ?_
  rintro e w2 ⟨rfl, hp, hf⟩
  have hp : RAt w2 w1.heap.size C g (rin (rvec 2 0 65535 st).2 (rvec 2 0 65535 st).1) := hp
  obtain ⟨y, hy⟩ : ∃ y, y = w1.heap.size := ⟨_, rfl⟩
  rw [← hy] at hp ⊢
  have hym : y ≠ m := by have h1 := HB1.out.lt (b := 0) rfl; omega
  have hmy : m ≠ y := fun e => hym e.symm
  have hxy : x ≠ y := by omega
  have hy0 : w0.heap.size ≤ y := by have h1 := HX.out.hx; omega
  have hyw : w.heap.size ≤ y := by have h1 := HK1.out.size; omega
  have hgy : g ≠ y := by have h1 := lt_of_heap HG1.out; omega
  have hgm : g ≠ m := HB1.out.gm
  have HB2 := Lib.hid (HB1.out.keep hf)
  have HX2 := Lib.hid (HR1.out.fs hf (by simp))
  have HG2 := Lib.hid ((hf.keep g (lt_of_heap HG1.out) (by simp)).trans HG1.out)
  have HP2 := Lib.hid hp
  have HK2 : Hid (Kt [y, m, x] w w2) := Lib.hid ((HK1.out.mono (by simp)).trans (hf.kt.mono (by simp)))
  have hrl : (rin (rvec 2 0 65535 st).2 (rvec 2 0 65535 st).1).2.length ≤ (rvec 2 0 65535 st).1.length := by
    unfold rin
    dsimp only
    split <;> simp
  obtain ⟨tot, htot⟩ : ∃ t, t = rsh (rvec 2 0 65535 st).1.length (rin (rvec 2 0 65535 st).2 (rvec 2 0 65535 st).1) := ⟨_, rfl⟩
  have HT1 : Hid ((rshares st).1 = tot.1) := Lib.hid (by rw [htot]; rfl)
  have HT2 : Hid ((rshares st).2 = rdone (rvec 2 0 65535 st).2 tot.2) := Lib.hid (by rw [htot]; rfl)
  have HTOT := Lib.hid htot
  clear hp hf hy htot
  go_wp2_with fail
  go_loopw [37] (fun _ wr => ∃ (don : List (Nat × List UInt8)) (sp : Nat × List UInt8) (fu : Nat), Bn w0 C g m [(m, rV C g rnd { f with shares := f.shares ++ don })] none wr ∧ RAt wr y C g sp ∧ RAt wr x C g (rvec 2 0 65535 st).2 ∧ Kt [y, m, x] w wr ∧ wr.heap[g]? = some (.cells C T fr) ∧
      sp.2.length ≤ fu ∧ sp.2.length + don.length ≤ 65535 ∧ don ++ (rsh fu sp).1 = tot.1 ∧ (rsh fu sp).2 = tot.2) (fun _ wr => cellLen wr y)
  case atStart =>
    refine ⟨[], _, (rvec 2 0 65535 st).1.length, by rw [List.append_nil]; exact HB2.out, HP2.out, HX2.out, HK2.out, HG2.out, hrl, by simp; omega, by rw [HTOT.out]; rfl, by rw [HTOT.out]⟩
  case round =>
    obtain ⟨don, ⟨code, bs⟩, fu, hb, hp, hx, hk, hg, hfu, hlen, he1, he2⟩ := hrel
    obtain ⟨v2, hh, hv2⟩ := id hp
    obtain ⟨a2, cap2, rfl, _, _⟩ := hv2.len
    simp only at hh hfu hlen
    have f0 : wr.cell? ⟨y, 0, none⟩ = some (.slice a2 bs.length cap2) := by rw [cell_of_heap hh]; rfl
    have HBr := Lib.hid hb
    have HPr := Lib.hid hp
    have HXr := Lib.hid hx
    have HKr := Lib.hid hk
    have HGr := Lib.hid hg
    have HE1 := Lib.hid he1
    have HE2 := Lib.hid he2
    have hcl2 := Lib.hid hp.cellLen
    clear hb hp hx hk hg hh hv2 he1 he2
    by_cases h0 : bs = []
    · have he1 := HE1.out
      have he2 := HE2.out
      rw [rsh_nil fu _ (show ((code, bs) : Nat × List UInt8).2 = [] from h0)] at he1 he2
      simp only [List.append_nil] at he1 he2
      have HE3 := Lib.hid he1
      have HE4 := Lib.hid he2
      have h1 : ¬ 0 < bs.length := by rw [h0]; simp
      clear he1 he2 h0
      go_wp2_with fail
      refine (done_ok _ hxy HXr.out HPr.out).mono ?_
      rintro e w9 ⟨rfl, hr, hf⟩
      have HB9 := Lib.hid (HBr.out.rd2 hf HX.out.hx HXr.out hy0 HPr.out HX.out.hm (rV_ok (f := { f with shares := f.shares ++ don }) HX.out.hr))
      have HR9 := Lib.hid hr
      have HK9 := Lib.hid (HKr.out.trans ((hf.mono (l' := [y, m, x]) (by simp)).kt))
      clear hr hf
      go_wp2_with fail
      go_end0
      refine ⟨rfl, by rw [HT1.out, ← HE3.out]; exact HB9.out, ?_, HK9.out.fresh hyw⟩
      rw [HT2.out, ← HE4.out]
      exact HR9.out
    · have h1 : 0 < bs.length := List.length_pos_iff.2 h0
      obtain ⟨fu, rfl⟩ : ∃ k, fu = k + 1 := ⟨fu - 1, by omega⟩
      go_upto_region 9 with fail
      obtain ⟨i0, hi, hz0, hz1, hz2⟩ := info_parts Try.info35b
      obtain ⟨vo, uo, hvo, howo, hRo⟩ := HBr.out.own (b := 0) (i := 20) rfl rfl
      obtain ⟨ao, co, rfl⟩ := row_slice howo
      clear howo hRo
      obtain ⟨N, hN⟩ : ∃ N, N = ((f.shares ++ don).map (·.1)).length := ⟨_, rfl⟩
      have hNle : ((f.shares ++ don).map (·.1)).length ≤ 4295100000 := by simp only [List.length_map, List.length_append]; have := HX.out.s1; have := HX.out.s2; omega
      rw [← hN] at hvo
      have HNN := Lib.hid hN
      clear hN
      have HGd : Hid (wr.drew.heap[g]? = some (.cells C T fr)) := Lib.hid HGr.out
      have HPd := Lib.hid (RAt.fs HPr.out ((Fs.refl [] wr).drew) (by simp))
      have HXd := Lib.hid (RAt.fs HXr.out ((Fs.refl [] wr).drew) (by simp))
      have HKd := Lib.hid (HKr.out.trans (((Fs.refl [] wr).drew).kt.mono (by simp)))
      refine region_ord [(0, true), (1, true), (2, true), (3, true), (4, true), (5, true), (6, false), (7, true), (8, false), (9, false), (10, true), (11, true), (12, false)] (fun w' => w'.cell? ⟨m, 20, none⟩ = some (.slice ao N co)) mixed (by kernel_rfl) (by kernel_rfl) rfl (by intro c' a' d' v' w' h; cases d' <;> exact h) hvo ?_
      iterate 6 (apply wpOrd_pure rfl rfl; apply Exists.intro; refine ⟨fun w' hS => ?_, ?_⟩; (· (first | (go_simp; done) | (go_simp; with_reducible rfl))); simp only [List.getElem_toArray, List.getElem_cons_succ, List.getElem_cons_zero, Act.put, List.setIfInBounds_toArray, List.set_cons_zero, List.set_cons_succ])
      refine wpOrd_run rfl rfl (fun K hK => ?_)
      go_simp
      refine (num_ok 2 wr.drew (by omega) HGd.out hgy HPd.out).mono ?_
      rintro e w3 ⟨rfl, hr, hf⟩
      have hX := rnum_rest (k := 2) (st := (code, bs)) (by omega) h0
      have hYl := rnum_lt (k := 2) (st := (code, bs))
      obtain ⟨Y, hYd⟩ : ∃ Y, Y = rnum 2 (code, bs) := ⟨_, rfl⟩
      have hYe : Hid ((rnum 2 (code, bs)).2 = Y.2) := Lib.hid (by rw [hYd])
      have hYf : Hid ((rnum 2 (code, bs)).1 = Y.1) := Lib.hid (by rw [hYd])
      rw [← hYd] at hr hX hYl ⊢
      clear hYd
      obtain ⟨yv, sp3⟩ := Y
      simp only at hr hX hYl ⊢
      have hw16 : IntKind.u16.wrap ((yv : Nat) : Int) = (yv : Int) := by simp [IntKind.wrap, IntKind.signed, IntKind.bits]; omega
      have hvo2 : w3.cell? ⟨m, 20, none⟩ = some (.slice ao N co) := (World.cell?_of_block (hf.keep m (HBr.out.lt (b := 0) rfl) hmy)).trans hvo
      refine hK _ _ (fun _ => hvo2) ?_
      clear hK K
      have HB3a := Lib.hid (HBr.out.drew.rd1 (hf.fs (l := [y]) (by simp)) hy0 HPd.out HX.out.hm (rV_ok (f := { f with shares := f.shares ++ don }) HX.out.hr))
      have HX3a := Lib.hid (HXd.out.fs (hf.fs (l := [y]) (by simp)) (by simpa using hxy))
      have HG3a := Lib.hid ((hf.keep g (lt_of_heap HGd.out) hgy).trans HGd.out)
      have HP3a := Lib.hid hr
      have HK3a := Lib.hid (HKd.out.trans ((hf.fs (l := [y, m, x]) (by simp)).kt))
      clear hr hf
      try simp only [List.getElem_toArray, List.getElem_cons_succ, List.getElem_cons_zero, Act.put, List.setIfInBounds_toArray, List.set_cons_zero, List.set_cons_succ]
      iterate 1 (apply wpOrd_pure rfl rfl; apply Exists.intro; refine ⟨fun w' hS => ?_, ?_⟩; (· (first | (go_simp; done) | (go_simp; with_reducible rfl))); simp only [List.getElem_toArray, List.getElem_cons_succ, List.getElem_cons_zero, Act.put, List.setIfInBounds_toArray, List.set_cons_zero, List.set_cons_succ])
      obtain ⟨ao1, co1, us1, v1, wa, hvo3, hR1, hrun, ⟨ao2, co2, rfl⟩, hK1, hc1, hz1', hg1, hB1⟩ := (HB3a.out.push (.cells #[.int .u16 (yv : Nat)] 35)).appX (i := 20) rfl (by decide) 48 48 i0 (.int .u16 0) 2 Try.underlying48 hi hz0 hz1 hz2 rfl (by decide) ⟨w3.heap.size, 0, none⟩ 1 1 [.int .u16 (yv : Nat)] rfl
        (fun j u hu => by
          match j, hu with
          | 0, hu => simp at hu; subst hu; exact World.cell?_alloc_new _ _ _ _) (fun u hu => by simp at hu; subst hu; rfl) (by show ((f.shares ++ don).map (·.1)).length + 1 ≤ maxLen; unfold maxLen; omega) (by show (((f.shares ++ don).map (·.1)).length + 1) * 2 ≤ 140737488355328; omega)
      rw [← HNN.out] at hvo3 hR1 hrun hc1
      have hvo4 : (w3.alloc (.cells #[.int .u16 (yv : Nat)] 35)).cell? ⟨m, 20, none⟩ = some (.slice ao N co) := (World.cell?_alloc_lt _ _ _ (HB3a.out.lt (b := 0) rfl)).trans hvo2
      rw [hvo4] at hvo3
      cases hvo3
      have HN := Lib.hid (hB1 (ShowU ((f.shares ++ don).map (·.1) ++ [yv])) ((f.shares ++ don).map (·.1) ++ [yv]).length (by rw [List.length_append]; rfl) (hR1.1.snoc))
      have HRUN := Lib.hid hrun
      have HKA := Lib.hid hK1
      have HGA := Lib.hid hg1
      clear hrun hB1 hR1 hK1 hg1 hvo2
      refine wpOrd_run rfl rfl (fun K hK => ?_)
      go_simp
      refine hK _ _ (fun _ => hvo4) ?_
      clear hK K
      refine wpOrd_run rfl rfl (fun K hK => ?_)
      refine wp_append_run (.tmp 47) (.tmp 51) 48 rfl _ _ rfl rfl HRUN.out ?_
      refine hK _ _ (fun _ => hc1) ?_
      clear hK K
      try simp only [List.getElem_toArray, List.getElem_cons_succ, List.getElem_cons_zero, Act.put, List.setIfInBounds_toArray, List.set_cons_zero, List.set_cons_succ]
      iterate 2 (apply wpOrd_pure rfl rfl; apply Exists.intro; refine ⟨fun w' hS => ?_, ?_⟩; (· (first | (go_simp; done) | (go_simp; with_reducible rfl))); simp only [List.getElem_toArray, List.getElem_cons_succ, List.getElem_cons_zero, Act.put, List.setIfInBounds_toArray, List.set_cons_zero, List.set_cons_succ])
      refine wpOrd_last rfl rfl (by kernel_rfl) (fun K hK => ?_)
      simp only [List.getElem_toArray, List.getElem_cons_succ, List.getElem_cons_zero]
      go_simp
      refine hK _ _ ?_
      refine wpOrd_nil ?_
      clear hK K
      have HX3 := Lib.hid (((HX3a.out.fs ((Fs.refl [] _).push (.cells #[.int .u16 (yv : Nat)] 35)) (by simp)).kt HKA.out (by simp)).setOther m 20 (.slice ao2 (N + 1) co2) hxm)
      have HP3 := Lib.hid (((HP3a.out.fs ((Fs.refl [] _).push (.cells #[.int .u16 (yv : Nat)] 35)) (by simp)).kt HKA.out (by simp)).setOther m 20 (.slice ao2 (N + 1) co2) hym)
      have HK3 := Lib.hid (((HK3a.out.alloc (.cells #[.int .u16 (yv : Nat)] 35)).trans (HKA.out.mono (by simp))).setCell m 20 (.slice ao2 (N + 1) co2) (by simp))
      have HG3 : Hid ((wa.setCell ⟨m, 20, none⟩ (.slice ao2 (N + 1) co2)).heap[g]? = some (.cells C T fr)) := Lib.hid (by
        rw [Below.heap_setCell _ _ _ _ hgm, HGA.out, Below.heap_alloc _ _ _ (lt_of_heap HG3a.out)]
        exact HG3a.out)
      have hNb := HN.out
      rw [← HNN.out] at hNb
      have HB3 := Lib.hid hNb
      clear hNb
      obtain ⟨w3, hw3⟩ : ∃ W, W = wa.setCell ⟨m, 20, none⟩ (.slice ao2 (N + 1) co2) := ⟨_, rfl⟩
      rw [← hw3] at HX3 HP3 HK3 HG3 HB3 ⊢
      clear HGd HPd HXd HKd HN HRUN HKA HGA hc1 hz1' hvo hvo4 hw3 HNN hNle HB3a HX3a HG3a HP3a HK3a
      go_upto_region 10 with fail
      obtain ⟨i0, hi, hz0, hz1, hz2⟩ := info_parts Try.info22c
      obtain ⟨vo, uo, hvo, howo, hRo⟩ := HB3.out.own (b := 0) (i := 21) rfl rfl
      obtain ⟨ao, co, rfl⟩ := row_slice howo
      clear howo hRo
      obtain ⟨N, hN⟩ : ∃ N, N = ((f.shares ++ don).map (·.2)).length := ⟨_, rfl⟩
      have hNle : ((f.shares ++ don).map (·.2)).length ≤ 4295100000 := by simp only [List.length_map, List.length_append]; have := HX.out.s1; have := HX.out.s2; omega
      rw [← hN] at hvo
      have HNN := Lib.hid hN
      clear hN
      have HGd : Hid (w3.drew.heap[g]? = some (.cells C T fr)) := Lib.hid HG3.out
      have HPd := Lib.hid (RAt.fs HP3.out ((Fs.refl [] w3).drew) (by simp))
      have HXd := Lib.hid (RAt.fs HX3.out ((Fs.refl [] w3).drew) (by simp))
      have HKd := Lib.hid (HK3.out.trans (((Fs.refl [] w3).drew).kt.mono (by simp)))
      refine region_ord [(0, true), (1, true), (2, true), (3, true), (4, true), (5, true), (6, false), (7, false), (8, false), (9, true), (10, true), (11, false)] (fun w' => w'.cell? ⟨m, 21, none⟩ = some (.slice ao N co)) mixed (by kernel_rfl) (by kernel_rfl) rfl (by intro c' a' d' v' w' h; cases d' <;> exact h) hvo ?_
      iterate 6 (apply wpOrd_pure rfl rfl; apply Exists.intro; refine ⟨fun w' hS => ?_, ?_⟩; (· (first | (go_simp; done) | (go_simp; with_reducible rfl))); simp only [List.getElem_toArray, List.getElem_cons_succ, List.getElem_cons_zero, Act.put, List.setIfInBounds_toArray, List.set_cons_zero, List.set_cons_succ])
      refine wpOrd_run rfl rfl (fun K hK => ?_)
      go_simp
      refine (vec_ok 2 1 65535 w3.drew (by omega) HGd.out hgy HPd.out).mono ?_
      rintro e w5 ⟨u, rfl, hv, hr, hf⟩
      have hZl := rvec_le (k := 2) (low := 1) (high := 65535) (st := sp3)
      have hZn := rvec_len (k := 2) (low := 1) (high := 65535) (st := sp3)
      obtain ⟨Z, hZd⟩ : ∃ Z, Z = rvec 2 1 65535 sp3 := ⟨_, rfl⟩
      have hZe : Hid (rvec 2 1 65535 sp3 = Z) := Lib.hid hZd.symm
      rw [← hZd] at hv hr hZl hZn
      clear hZd
      obtain ⟨zv, sp5⟩ := Z
      simp only at hv hr hZl hZn
      have HVZ := Lib.hid hv
      obtain ⟨az, cz, rfl, _, _⟩ := hv.len
      clear hv
      have hvo2 : w5.cell? ⟨m, 21, none⟩ = some (.slice ao N co) := (World.cell?_of_block (hf.keep m (HB3.out.lt (b := 0) rfl) hmy)).trans hvo
      refine hK _ _ (fun _ => hvo2) ?_
      clear hK K
      have HB5a := Lib.hid (HB3.out.drew.rd1 (hf.fs (l := [y]) (by simp)) hy0 HPd.out HX.out.hm (ownOK_set (rV_ok (f := { f with shares := f.shares ++ don }) HX.out.hr) (by decide)))
      have HX5a := Lib.hid (HXd.out.fs (hf.fs (l := [y]) (by simp)) (by simpa using hxy))
      have HG5a := Lib.hid ((hf.keep g (lt_of_heap HGd.out) hgy).trans HGd.out)
      have HP5a := Lib.hid hr
      have HK5a := Lib.hid (HKd.out.trans ((hf.fs (l := [y, m, x]) (by simp)).kt))
      clear hr hf
      try simp only [List.getElem_toArray, List.getElem_cons_succ, List.getElem_cons_zero, Act.put, List.setIfInBounds_toArray, List.set_cons_zero, List.set_cons_succ]

      obtain ⟨ao1, co1, us1, v1, wa, hvo3, hR1, hrun, ⟨ao2, co2, rfl⟩, hK1, hc1, hz1', hg1, hB1⟩ := (HB5a.out.push (.cells #[.slice az zv.length cz] 22)).appX (i := 21) rfl (by decide) 29 29 i0 (.slice none 0 0) 24 Try.underlying29 hi hz0 hz1 hz2 rfl (by decide) ⟨w5.heap.size, 0, none⟩ 1 1 [.slice az zv.length cz] rfl
        (fun j u hu => by
          match j, hu with
          | 0, hu => simp at hu; subst hu; exact World.cell?_alloc_new _ _ _ _) (fun u hu => by simp at hu; subst hu; rfl) (by show ((f.shares ++ don).map (·.2)).length + 1 ≤ maxLen; unfold maxLen; omega) (by show (((f.shares ++ don).map (·.2)).length + 1) * 24 ≤ 140737488355328; omega)
      rw [← HNN.out] at hvo3 hR1 hrun hc1
      have hvo4 : (w5.alloc (.cells #[.slice az zv.length cz] 22)).cell? ⟨m, 21, none⟩ = some (.slice ao N co) := (World.cell?_alloc_lt _ _ _ (HB5a.out.lt (b := 0) rfl)).trans hvo2
      rw [hvo4] at hvo3
      cases hvo3
      have HN := Lib.hid (hB1 (ShowW C g ((f.shares ++ don).map (·.2) ++ [zv])) ((f.shares ++ don).map (·.2) ++ [zv]).length (by rw [List.length_append]; rfl) (hR1.1.snoc (by have h9 := hR1.2; rw [HNN.out] at h9; simpa using h9) HVZ.out))
      have HRUN := Lib.hid hrun
      have HKA := Lib.hid hK1
      have HGA := Lib.hid hg1
      clear hrun hB1 hR1 hK1 hg1 hvo2
      refine wpOrd_run rfl rfl (fun K hK => ?_)
      go_simp
      refine hK _ _ (fun _ => hvo4) ?_
      clear hK K
      refine wpOrd_run rfl rfl (fun K hK => ?_)
      refine wp_append_run (.tmp 59) (.tmp 62) 29 rfl _ _ rfl rfl HRUN.out ?_
      refine hK _ _ (fun _ => hc1) ?_
      clear hK K
      try simp only [List.getElem_toArray, List.getElem_cons_succ, List.getElem_cons_zero, Act.put, List.setIfInBounds_toArray, List.set_cons_zero, List.set_cons_succ]
      iterate 2 (apply wpOrd_pure rfl rfl; apply Exists.intro; refine ⟨fun w' hS => ?_, ?_⟩; (· (first | (go_simp; done) | (go_simp; with_reducible rfl))); simp only [List.getElem_toArray, List.getElem_cons_succ, List.getElem_cons_zero, Act.put, List.setIfInBounds_toArray, List.set_cons_zero, List.set_cons_succ])
      refine wpOrd_last rfl rfl (by kernel_rfl) (fun K hK => ?_)
      simp only [List.getElem_toArray, List.getElem_cons_succ, List.getElem_cons_zero]
      go_simp
      refine hK _ _ ?_
      refine wpOrd_nil ?_
      clear hK K
      have HX5 := Lib.hid (((HX5a.out.fs ((Fs.refl [] _).push (.cells #[.slice az zv.length cz] 22)) (by simp)).kt HKA.out (by simp)).setOther m 21 (.slice ao2 (N + 1) co2) hxm)
      have HP5 := Lib.hid (((HP5a.out.fs ((Fs.refl [] _).push (.cells #[.slice az zv.length cz] 22)) (by simp)).kt HKA.out (by simp)).setOther m 21 (.slice ao2 (N + 1) co2) hym)
      have HK5 := Lib.hid (((HK5a.out.alloc (.cells #[.slice az zv.length cz] 22)).trans (HKA.out.mono (by simp))).setCell m 21 (.slice ao2 (N + 1) co2) (by simp))
      have HG5 : Hid ((wa.setCell ⟨m, 21, none⟩ (.slice ao2 (N + 1) co2)).heap[g]? = some (.cells C T fr)) := Lib.hid (by
        rw [Below.heap_setCell _ _ _ _ hgm, HGA.out, Below.heap_alloc _ _ _ (lt_of_heap HG5a.out)]
        exact HG5a.out)
      have hNb := HN.out
      rw [← HNN.out] at hNb
      have HB5 := Lib.hid hNb
      clear hNb
      obtain ⟨w5, hw5⟩ : ∃ W, W = wa.setCell ⟨m, 21, none⟩ (.slice ao2 (N + 1) co2) := ⟨_, rfl⟩
      rw [← hw5] at HX5 HP5 HK5 HG5 HB5 ⊢
      clear HGd HPd HXd HKd HN HRUN HKA HGA hc1 hz1' hvo hvo4 hw5 HNN hNle HB5a HX5a HG5a HP5a HK5a
      go_wp2_with fail
      have he1 := HE1.out
      have he2 := HE2.out
      rw [rsh_succ fu (code, bs) h0, hYe.out, hYf.out] at he1 he2
      simp only at he1 he2
      rw [hZe.out] at he1 he2
      simp only at he1 he2
      refine ⟨⟨don ++ [(yv, zv)], sp5, fu, ?_, HP5.out, HX5.out, HK5.out, HG5.out, by omega, by simp; omega, by rw [List.append_assoc]; exact he1, he2⟩, ?_⟩
      · rw [← List.append_assoc, rV_share]
        exact HB5.out
      · rw [HP5.out.cellLen, hcl2.out]; simp only; omega

set_option maxRecDepth 100000 in
set_option maxHeartbeats 4000000 in
theorem readKeys_ok (h : Cx w0 w C g m x rnd f st) :
    Calls Try.prog 110 #[.pointer (some ⟨x, 0, none⟩), .pointer (some ⟨m, 0, none⟩)] w (CxPost w0 w C g m x rnd ({ f with psks := f.psks ++ (rids st).1, binders := (rbind (f.psks ++ (rids st).1).length (rids st).2).1 }, (rbind (f.psks ++ (rids st).1).length (rids st).2).2)) := by
  have hxm : x ≠ m := by have := h.hx; have := h.hm; omega
  have hmx : m ≠ x := fun e => hxm e.symm
  have hgx := h.hb.gne h.hx
  have hok := rV_ok (C := C) (g := g) (f := f) h.hr
  obtain ⟨T, fr, hg⟩ := h.hb.data
  have HG := Lib.hid hg
  have HX := Lib.hid h
  clear hg h
  go_enter Try.func110, Try.ntmps110
  go_wp2_with fail
  refine (vec_ok 2 7 65535 w (by omega) HG.out hgx HX.out.ra).mono ?_
  rintro e w1 ⟨u, rfl, hv, hr, hf⟩
  have hl1 := rvec_len (k := 2) (low := 7) (high := 65535) (st := st)
  have HV1 := Lib.hid hv
  obtain ⟨av1, cv1, rfl, _, _⟩ := hv.len
  have HB1 := Lib.hid (HX.out.hb.rd1 (hf.fs (l := [x]) (by simp)) HX.out.hx HX.out.ra HX.out.hm hok)
  have HG1 := Lib.hid ((hf.keep g (lt_of_heap HG.out) hgx).trans HG.out)
  have HR1 := Lib.hid hr
  have HK1 := Lib.hid ((hf.fs (l := [x]) (by simp)).kt.mono (l' := [m, x]) (by simp))
  clear hv hr hf
  have hxl1 := HR1.out.lt
  go_wp2_with fail
  refine (within_ok w1 HV1.out HR1.out).mono ?_
  rintro e w2 ⟨rfl, hp, hf⟩
  have hp : RAt w2 w1.heap.size C g (rin (rvec 2 7 65535 st).2 (rvec 2 7 65535 st).1) := hp
  obtain ⟨y, hy⟩ : ∃ y, y = w1.heap.size := ⟨_, rfl⟩
  rw [← hy] at hp ⊢
  have hym : y ≠ m := by have h1 := HB1.out.lt (b := 0) rfl; omega
  have hmy : m ≠ y := fun e => hym e.symm
  have hxy : x ≠ y := by omega
  have hy0 : w0.heap.size ≤ y := by have h1 := HX.out.hx; omega
  have hyw : w.heap.size ≤ y := by have h1 := HK1.out.size; omega
  have hgy : g ≠ y := by have h1 := lt_of_heap HG1.out; omega
  have hgm : g ≠ m := HB1.out.gm
  have HB2 := Lib.hid (HB1.out.keep hf)
  have HX2 := Lib.hid (HR1.out.fs hf (by simp))
  have HG2 := Lib.hid ((hf.keep g (lt_of_heap HG1.out) (by simp)).trans HG1.out)
  have HP2 := Lib.hid hp
  have HK2 : Hid (Kt [y, m, x] w w2) := Lib.hid ((HK1.out.mono (by simp)).trans (hf.kt.mono (by simp)))
  have hrl : (rin (rvec 2 7 65535 st).2 (rvec 2 7 65535 st).1).2.length ≤ (rvec 2 7 65535 st).1.length := by
    unfold rin
    dsimp only
    split <;> simp
  obtain ⟨tot, htot⟩ : ∃ t, t = rid (rvec 2 7 65535 st).1.length (rin (rvec 2 7 65535 st).2 (rvec 2 7 65535 st).1) := ⟨_, rfl⟩
  have HT1 : Hid ((rids st).1 = tot.1) := Lib.hid (by rw [htot]; rfl)
  have HT2 : Hid ((rids st).2 = rdone (rvec 2 7 65535 st).2 tot.2) := Lib.hid (by rw [htot]; rfl)
  have HTOT := Lib.hid htot
  clear hp hf hy htot
  go_wp2_with fail
  go_loopw [9] (fun _ wr => ∃ (don : List (List UInt8 × Nat)) (sp : Nat × List UInt8) (fu : Nat), Bn w0 C g m [(m, rV C g rnd { f with psks := f.psks ++ don })] none wr ∧ RAt wr y C g sp ∧ RAt wr x C g (rvec 2 7 65535 st).2 ∧ Kt [y, m, x] w wr ∧ wr.heap[g]? = some (.cells C T fr) ∧
      sp.2.length ≤ fu ∧ sp.2.length + don.length ≤ 65535 ∧ don ++ (rid fu sp).1 = tot.1 ∧ (rid fu sp).2 = tot.2) (fun _ wr => cellLen wr y)
  case atStart =>
    refine ⟨[], _, (rvec 2 7 65535 st).1.length, by rw [List.append_nil]; exact HB2.out, HP2.out, HX2.out, HK2.out, HG2.out, hrl, by simp; omega, by rw [HTOT.out]; rfl, by rw [HTOT.out]⟩
  case round =>
    obtain ⟨don, ⟨code, bs⟩, fu, hb, hp, hx, hk, hg, hfu, hlen, he1, he2⟩ := hrel
    obtain ⟨v2, hh, hv2⟩ := id hp
    obtain ⟨a2, cap2, rfl, _, _⟩ := hv2.len
    simp only at hh hfu hlen
    have f0 : wr.cell? ⟨y, 0, none⟩ = some (.slice a2 bs.length cap2) := by rw [cell_of_heap hh]; rfl
    have HBr := Lib.hid hb
    have HPr := Lib.hid hp
    have HXr := Lib.hid hx
    have HKr := Lib.hid hk
    have HGr := Lib.hid hg
    have HE1 := Lib.hid he1
    have HE2 := Lib.hid he2
    have hcl2 := Lib.hid hp.cellLen
    clear hb hp hx hk hg hh hv2 he1 he2
    by_cases h0 : bs = []
    · have he1 := HE1.out
      have he2 := HE2.out
      rw [rid_nil fu _ (show ((code, bs) : Nat × List UInt8).2 = [] from h0)] at he1 he2
      simp only [List.append_nil] at he1 he2
      have HE3 := Lib.hid he1
      have HE4 := Lib.hid he2
      have h1 : ¬ 0 < bs.length := by rw [h0]; simp
      clear he1 he2 h0
      go_wp2_with fail
      refine (done_ok _ hxy HXr.out HPr.out).mono ?_
      rintro e w9 ⟨rfl, hr, hf⟩
      have HB9 := Lib.hid (HBr.out.rd2 hf HX.out.hx HXr.out hy0 HPr.out HX.out.hm (rV_ok (f := { f with psks := f.psks ++ don }) HX.out.hr))
      have HR9 : Hid (RAt w9 x C g (rids st).2) := Lib.hid (by rw [HT2.out, ← HE4.out]; exact hr)
      have HK9 := Lib.hid (HKr.out.trans ((hf.mono (l' := [y, m, x]) (by simp)).kt))
      have HG9 := Lib.hid ((hf.keep g (lt_of_heap HGr.out) (by simp; omega)).trans HGr.out)
      obtain ⟨st9, hst9⟩ : ∃ s, s = (rids st).2 := ⟨_, rfl⟩
      rw [← hst9] at HR9
      have HS9 := Lib.hid hst9
      have h10l := rvec_len (k := 2) (low := 2) (high := 65535) (st := st9)
      clear hr hf hst9
      go_wp2_with fail
      refine (vec_ok 2 2 65535 w9 (by omega) HG9.out hgx HR9.out).mono ?_
      rintro e w10 ⟨u, rfl, hv, hr, hf⟩
      have HV10 := Lib.hid hv
      obtain ⟨av10, cv10, rfl, _, _⟩ := hv.len
      have HB10 := Lib.hid (HB9.out.rd1 (hf.fs (l := [x]) (by simp)) HX.out.hx HR9.out HX.out.hm (rV_ok (f := { f with psks := f.psks ++ don }) HX.out.hr))
      have HG10 := Lib.hid ((hf.keep g (lt_of_heap HG9.out) hgx).trans HG9.out)
      have HR10 := Lib.hid hr
      have HK10 := Lib.hid (HK9.out.trans ((hf.fs (l := [y, m, x]) (by simp)).kt))
      clear hv hr hf
      go_wp2_with fail
      refine (rvectors_ok 1 1 w10 (by omega) HG10.out hgx (by omega) HV10.out HR10.out).mono ?_
      rintro e w11 ⟨o, rfl, ho, hr, hf⟩
      have hll := rvecs_many2 1 1 (by omega) (rvec 2 2 65535 st9).2 (rvec 2 2 65535 st9).1
      have ho : OutL w11 w10.heap.size C g o (rvv st9).1 := ho
      have hr : RAt w11 x C g (rvv st9).2 := hr
      have hll : (rvv st9).1.length ≤ (rvec 2 2 65535 st9).1.length := hll
      have HRB : Hid (rbind (f.psks ++ (rids st).1).length (rids st).2 = ((rvv st9).1, if (rvv st9).2.1 = 0 ∧ ((rvv st9).1.length ≠ (f.psks ++ don).length ∨ rnone 1 31 (rvv st9).1 = false) then rfail 1 (rvv st9).2 else (rvv st9).2)) := Lib.hid (by
        rw [HE3.out, HT1.out, HS9.out]; rfl)
      obtain ⟨V, hV⟩ : ∃ V, V = rvv st9 := ⟨_, rfl⟩
      rw [← hV] at ho hr hll HRB
      clear hV
      obtain ⟨BL, sc, sr⟩ := V
      simp only at ho hr hll HRB
      have HB11 := Lib.hid (HB10.out.rd1 hf HX.out.hx HR10.out HX.out.hm (rV_ok (f := { f with psks := f.psks ++ don }) HX.out.hr))
      have HH11 := Lib.hid (hf.keep m (HB10.out.lt (b := 0) rfl) (by simpa using hmx))
      obtain ⟨us, hown, hus⟩ := ho
      obtain ⟨ao, co, rfl⟩ := row_slice hown
      have HR11 := Lib.hid hr
      have HK11 := Lib.hid (HK10.out.trans (hf.kt.mono (l' := [y, m, x]) (by simp)))
      have HO11 := Lib.hid hown
      have HU11 : Hid (ShowW C g BL (.slice ao BL.length co) us) := Lib.hid hus
      clear hr hf hown hus
      obtain ⟨u26, hc26, _⟩ := HB11.out.at (b := 0) (i := 26) rfl rfl
      have hfz26 := HB11.out.frozen (b := 0) rfl 26
      have HB12 := Lib.hid (Bn.newrow HB10.out HB11.out HH11.out HO11.out (i := 26) rfl (ShowW C g BL) HU11.out)
      have HR12 := Lib.hid (HR11.out.setOther m 26 (.slice ao BL.length co) hxm)
      have HK12 := Lib.hid (HK11.out.setCell m 26 (.slice ao BL.length co) (by simp))
      have hbll : BL.length ≤ 65535 := by omega
      go_upto_region 6 with fail
      obtain ⟨w12, hw12⟩ : ∃ W, W = w11.setCell ⟨m, 26, none⟩ (.slice ao BL.length co) := ⟨_, rfl⟩
      rw [← hw12] at HB12 HR12 HK12 ⊢
      clear hw12 hc26 hfz26 HB10 HB11 HH11 HO11 HU11
      obtain ⟨v26, us26, q26, ho26, hR26⟩ := HB12.out.own (b := 0) (i := 26) rfl rfl
      have HO26 : Hid (OutL w12 w0.heap.size C g v26 BL) := Lib.hid ⟨us26, ho26, hR26⟩
      obtain ⟨a26, c26, rfl⟩ := row_slice ho26
      obtain ⟨v24, us24, q24, ho24, _⟩ := HB12.out.own (b := 0) (i := 24) rfl rfl
      obtain ⟨a24, c24, rfl⟩ := row_slice ho24
      obtain ⟨K, hK⟩ : ∃ K, K = ((f.psks ++ don).map (·.1)).length := ⟨_, rfl⟩
      rw [← hK] at q24
      have HKL : Hid (K = (f.psks ++ don).length) := Lib.hid (by rw [hK, List.length_map])
      rw [← HKL.out] at HRB
      obtain ⟨vx, hhx, hvx⟩ := id HR12.out
      simp only at hhx
      have x1 : w12.cell? ⟨x, 1, none⟩ = some (.int .i64 sc) := by rw [cell_of_heap hhx]; rfl
      have HFIN : Hid (Bn w0 C g m [(m, rV C g rnd { f with psks := f.psks ++ (rids st).1, binders := (rbind (f.psks ++ (rids st).1).length (rids st).2).1 })] none w12) := Lib.hid (by
        rw [HRB.out, HT1.out, ← HE3.out]; exact HB12.out)
      have HX12 := Lib.hid HX.out
      clear ho26 hR26 ho24 hK hhx hvx
      have HBd := Lib.hid HFIN.out.drew
      have HRd := Lib.hid (RAt.fs HR12.out ((Fs.refl [] w12).drew) (by simp))
      have HKd : Hid (Kt [m, x] w w12.drew) := Lib.hid ((HK12.out.trans (((Fs.refl [] w12).drew).kt.mono (by simp))).fresh hyw)
      have HOd : Hid (OutL w12.drew w0.heap.size C g (.slice a26 BL.length c26) BL) := Lib.hid HO26.out
      have hokf := Lib.hid (rV_ok (C := C) (g := g) (f := { f with psks := f.psks ++ (rids st).1, binders := (rbind (f.psks ++ (rids st).1).length (rids st).2).1 }) HX.out.hr)
      clear HFIN HR12 HK12 HO26 HB12
      by_cases hsc : sc = 0
      · subst hsc
        by_cases hKB : BL.length = K
        · have hnn : ((BL.length : Nat) : Int) = ((K : Nat) : Int) := by omega
          rw [hKB] at q26 HOd
          have HKB := Lib.hid hKB
          clear hnn hKB
          by_cases hno : rnone 1 31 BL = true
          · have HRB2 : Hid ((rbind (f.psks ++ (rids st).1).length (rids st).2).2 = (0, sr)) := Lib.hid (by
              rw [HRB.out]
              simp [HKB.out, hno])
            have HNO := Lib.hid hno
            clear hno
            go_still_tail 22, mixed
            go_wp2_with fail
            refine (none31_ok w12.drew (by simpa using HOd.out) (by omega)).mono ?_
            rintro e w13 ⟨rfl, rfl⟩
            rw [HNO.out]
            go_wp2_with fail
            go_end0
            exact ⟨rfl, HBd.out, by rw [HRB2.out]; exact HRd.out, HKd.out⟩
          · have hno2 : rnone 1 31 BL = false := by simpa using hno
            have HRB2 : Hid ((rbind (f.psks ++ (rids st).1).length (rids st).2).2 = rfail 1 (0, sr)) := Lib.hid (by
              rw [HRB.out]
              simp [hno2])
            have HNO := Lib.hid hno2
            clear hno hno2
            go_still_tail 22, mixed
            go_wp2_with fail
            refine (none31_ok w12.drew (by simpa using HOd.out) (by omega)).mono ?_
            rintro e w13 ⟨rfl, rfl⟩
            rw [HNO.out]
            go_wp2_with fail
            refine (fail_ok 1 w12.drew HRd.out).mono ?_
            rintro e w14 ⟨rfl, hr, hf⟩
            have HB14 := Lib.hid (HBd.out.rd1 (hf.fs (l := [x]) (by simp)) HX.out.hx HRd.out HX.out.hm hokf.out)
            have HR14 := Lib.hid hr
            have HK14 := Lib.hid (HKd.out.trans ((hf.fs (l := [m, x]) (by simp)).kt))
            clear hr hf
            go_wp2_with fail
            go_end0
            exact ⟨rfl, HB14.out, by rw [HRB2.out]; exact HR14.out, HK14.out⟩
        · have hnn : ¬ ((BL.length : Nat) : Int) = ((K : Nat) : Int) := by omega
          have hn2 : (((BL.length : Nat) : Int) == ((K : Nat) : Int)) = false := by simp; omega
          have HRB2 : Hid ((rbind (f.psks ++ (rids st).1).length (rids st).2).2 = rfail 1 (0, sr)) := Lib.hid (by
            rw [HRB.out]
            simp [hKB])
          go_still_tail 22, mixed
          go_wp2_with fail
          refine (fail_ok 1 w12.drew HRd.out).mono ?_
          rintro e w14 ⟨rfl, hr, hf⟩
          have HB14 := Lib.hid (HBd.out.rd1 (hf.fs (l := [x]) (by simp)) HX.out.hx HRd.out HX.out.hm hokf.out)
          have HR14 := Lib.hid hr
          have HK14 := Lib.hid (HKd.out.trans ((hf.fs (l := [m, x]) (by simp)).kt))
          clear hr hf
          go_wp2_with fail
          go_end0
          exact ⟨rfl, HB14.out, by rw [HRB2.out]; exact HR14.out, HK14.out⟩
      · have hs1 : ¬ ((sc : Nat) : Int) = 0 := by omega
        have hs2 : (((sc : Nat) : Int) == 0) = false := by simpa using hsc
        have HRB2 : Hid ((rbind (f.psks ++ (rids st).1).length (rids st).2).2 = (sc, sr)) := Lib.hid (by
          rw [HRB.out]
          simp [hsc])
        clear hsc
        refine wp_region_still_tail 22 mixed (by kernel_rfl) ?_
        simp only [List.take_succ_cons, List.take_zero, List.drop_succ_cons, List.drop_zero]
        iterate 6 still_step
        iterate 16 (with_reducible refine wpStill_skip (by kernel_rfl) ?_; simp only [Act.put, List.setIfInBounds_toArray, List.set_cons_zero, List.set_cons_succ])
        with_reducible refine wpStill_nil ?_
        go_wp2_with fail
        go_end0
        refine ⟨rfl, ?_, ?_, HKd.out⟩
        · have h9 := HBd.out
          simp only [List.length_append] at h9
          exact h9
        · have h9 := HRB2.out
          simp only [List.length_append] at h9
          rw [h9]
          exact HRd.out
    · have h1 : 0 < bs.length := List.length_pos_iff.2 h0
      obtain ⟨fu, rfl⟩ : ∃ k, fu = k + 1 := ⟨fu - 1, by omega⟩
      go_upto_region 2 with fail
      obtain ⟨i0, hi, hz0, hz1, hz2⟩ := info_parts Try.info22c
      obtain ⟨vo, uo, hvo, howo, hRo⟩ := HBr.out.own (b := 0) (i := 24) rfl rfl
      obtain ⟨ao, co, rfl⟩ := row_slice howo
      clear howo hRo
      obtain ⟨N, hN⟩ : ∃ N, N = ((f.psks ++ don).map (·.1)).length := ⟨_, rfl⟩
      have hNle : ((f.psks ++ don).map (·.1)).length ≤ 4295100000 := by simp only [List.length_map, List.length_append]; have := HX.out.s1; have := HX.out.s2; omega
      rw [← hN] at hvo
      have HNN := Lib.hid hN
      clear hN
      have HGd : Hid (wr.drew.heap[g]? = some (.cells C T fr)) := Lib.hid HGr.out
      have HPd := Lib.hid (RAt.fs HPr.out ((Fs.refl [] wr).drew) (by simp))
      have HXd := Lib.hid (RAt.fs HXr.out ((Fs.refl [] wr).drew) (by simp))
      have HKd := Lib.hid (HKr.out.trans (((Fs.refl [] wr).drew).kt.mono (by simp)))
      refine region_ord [(0, true), (1, true), (2, true), (3, true), (4, true), (5, true), (6, false), (7, false), (8, false), (9, true), (10, true), (11, false)] (fun w' => w'.cell? ⟨m, 24, none⟩ = some (.slice ao N co)) mixed (by kernel_rfl) (by kernel_rfl) rfl (by intro c' a' d' v' w' h; cases d' <;> exact h) hvo ?_
      iterate 6 (apply wpOrd_pure rfl rfl; apply Exists.intro; refine ⟨fun w' hS => ?_, ?_⟩; (· (first | (go_simp; done) | (go_simp; with_reducible rfl))); simp only [List.getElem_toArray, List.getElem_cons_succ, List.getElem_cons_zero, Act.put, List.setIfInBounds_toArray, List.set_cons_zero, List.set_cons_succ])
      refine wpOrd_run rfl rfl (fun K hK => ?_)
      go_simp
      refine (vec_ok 2 1 65535 wr.drew (by omega) HGd.out hgy HPd.out).mono ?_
      rintro e w3 ⟨u, rfl, hv, hr, hf⟩
      have hZl := rvec_rest (k := 2) (low := 1) (high := 65535) (st := (code, bs)) (by omega) h0
      have hZn := rvec_len (k := 2) (low := 1) (high := 65535) (st := (code, bs))
      obtain ⟨Z, hZd⟩ : ∃ Z, Z = rvec 2 1 65535 (code, bs) := ⟨_, rfl⟩
      have hZe : Hid (rvec 2 1 65535 (code, bs) = Z) := Lib.hid hZd.symm
      rw [← hZd] at hv hr hZl hZn
      clear hZd
      obtain ⟨zv, sp3⟩ := Z
      simp only at hv hr hZl hZn
      have HVZ := Lib.hid hv
      obtain ⟨az, cz, rfl, _, _⟩ := hv.len
      clear hv
      have hvo2 : w3.cell? ⟨m, 24, none⟩ = some (.slice ao N co) := (World.cell?_of_block (hf.keep m (HBr.out.lt (b := 0) rfl) hmy)).trans hvo
      refine hK _ _ (fun _ => hvo2) ?_
      clear hK K
      have HB3a := Lib.hid (HBr.out.drew.rd1 (hf.fs (l := [y]) (by simp)) hy0 HPd.out HX.out.hm (rV_ok (f := { f with psks := f.psks ++ don }) HX.out.hr))
      have HX3a := Lib.hid (HXd.out.fs (hf.fs (l := [y]) (by simp)) (by simpa using hxy))
      have HG3a := Lib.hid ((hf.keep g (lt_of_heap HGd.out) hgy).trans HGd.out)
      have HP3a := Lib.hid hr
      have HK3a := Lib.hid (HKd.out.trans ((hf.fs (l := [y, m, x]) (by simp)).kt))
      clear hr hf
      try simp only [List.getElem_toArray, List.getElem_cons_succ, List.getElem_cons_zero, Act.put, List.setIfInBounds_toArray, List.set_cons_zero, List.set_cons_succ]

      obtain ⟨ao1, co1, us1, v1, wa, hvo3, hR1, hrun, ⟨ao2, co2, rfl⟩, hK1, hc1, hz1', hg1, hB1⟩ := (HB3a.out.push (.cells #[.slice az zv.length cz] 22)).appX (i := 24) rfl (by decide) 29 29 i0 (.slice none 0 0) 24 Try.underlying29 hi hz0 hz1 hz2 rfl (by decide) ⟨w3.heap.size, 0, none⟩ 1 1 [.slice az zv.length cz] rfl
        (fun j u hu => by
          match j, hu with
          | 0, hu => simp at hu; subst hu; exact World.cell?_alloc_new _ _ _ _) (fun u hu => by simp at hu; subst hu; rfl) (by show ((f.psks ++ don).map (·.1)).length + 1 ≤ maxLen; unfold maxLen; omega) (by show (((f.psks ++ don).map (·.1)).length + 1) * 24 ≤ 140737488355328; omega)
      rw [← HNN.out] at hvo3 hR1 hrun hc1
      have hvo4 : (w3.alloc (.cells #[.slice az zv.length cz] 22)).cell? ⟨m, 24, none⟩ = some (.slice ao N co) := (World.cell?_alloc_lt _ _ _ (HB3a.out.lt (b := 0) rfl)).trans hvo2
      rw [hvo4] at hvo3
      cases hvo3
      have HN := Lib.hid (hB1 (ShowW C g ((f.psks ++ don).map (·.1) ++ [zv])) ((f.psks ++ don).map (·.1) ++ [zv]).length (by rw [List.length_append]; rfl) (hR1.1.snoc (by have h9 := hR1.2; rw [HNN.out] at h9; simpa using h9) HVZ.out))
      have HRUN := Lib.hid hrun
      have HKA := Lib.hid hK1
      have HGA := Lib.hid hg1
      clear hrun hB1 hR1 hK1 hg1 hvo2
      refine wpOrd_run rfl rfl (fun K hK => ?_)
      go_simp
      refine hK _ _ (fun _ => hvo4) ?_
      clear hK K
      refine wpOrd_run rfl rfl (fun K hK => ?_)
      refine wp_append_run (.tmp 19) (.tmp 22) 29 rfl _ _ rfl rfl HRUN.out ?_
      refine hK _ _ (fun _ => hc1) ?_
      clear hK K
      try simp only [List.getElem_toArray, List.getElem_cons_succ, List.getElem_cons_zero, Act.put, List.setIfInBounds_toArray, List.set_cons_zero, List.set_cons_succ]
      iterate 2 (apply wpOrd_pure rfl rfl; apply Exists.intro; refine ⟨fun w' hS => ?_, ?_⟩; (· (first | (go_simp; done) | (go_simp; with_reducible rfl))); simp only [List.getElem_toArray, List.getElem_cons_succ, List.getElem_cons_zero, Act.put, List.setIfInBounds_toArray, List.set_cons_zero, List.set_cons_succ])
      refine wpOrd_last rfl rfl (by kernel_rfl) (fun K hK => ?_)
      simp only [List.getElem_toArray, List.getElem_cons_succ, List.getElem_cons_zero]
      go_simp
      refine hK _ _ ?_
      refine wpOrd_nil ?_
      clear hK K
      have HX3 := Lib.hid (((HX3a.out.fs ((Fs.refl [] _).push (.cells #[.slice az zv.length cz] 22)) (by simp)).kt HKA.out (by simp)).setOther m 24 (.slice ao2 (N + 1) co2) hxm)
      have HP3 := Lib.hid (((HP3a.out.fs ((Fs.refl [] _).push (.cells #[.slice az zv.length cz] 22)) (by simp)).kt HKA.out (by simp)).setOther m 24 (.slice ao2 (N + 1) co2) hym)
      have HK3 := Lib.hid (((HK3a.out.alloc (.cells #[.slice az zv.length cz] 22)).trans (HKA.out.mono (by simp))).setCell m 24 (.slice ao2 (N + 1) co2) (by simp))
      have HG3 : Hid ((wa.setCell ⟨m, 24, none⟩ (.slice ao2 (N + 1) co2)).heap[g]? = some (.cells C T fr)) := Lib.hid (by
        rw [Below.heap_setCell _ _ _ _ hgm, HGA.out, Below.heap_alloc _ _ _ (lt_of_heap HG3a.out)]
        exact HG3a.out)
      have hNb := HN.out
      rw [← HNN.out] at hNb
      have HB3 := Lib.hid hNb
      clear hNb
      obtain ⟨w3, hw3⟩ : ∃ W, W = wa.setCell ⟨m, 24, none⟩ (.slice ao2 (N + 1) co2) := ⟨_, rfl⟩
      rw [← hw3] at HX3 HP3 HK3 HG3 HB3 ⊢
      clear HGd HPd HXd HKd HN HRUN HKA HGA hc1 hz1' hvo hvo4 hw3 HNN hNle HB3a HX3a HG3a HP3a HK3a
      go_upto_region 3 with fail
      obtain ⟨i0, hi, hz0, hz1, hz2⟩ := info_parts Try.info143b
      obtain ⟨vo, uo, hvo, howo, hRo⟩ := HB3.out.own (b := 0) (i := 25) rfl rfl
      obtain ⟨ao, co, rfl⟩ := row_slice howo
      clear howo hRo
      obtain ⟨N, hN⟩ : ∃ N, N = ((f.psks ++ don).map (·.2)).length := ⟨_, rfl⟩
      have hNle : ((f.psks ++ don).map (·.2)).length ≤ 4295100000 := by simp only [List.length_map, List.length_append]; have := HX.out.s1; have := HX.out.s2; omega
      rw [← hN] at hvo
      have HNN := Lib.hid hN
      clear hN
      have HGd : Hid (w3.drew.heap[g]? = some (.cells C T fr)) := Lib.hid HG3.out
      have HPd := Lib.hid (RAt.fs HP3.out ((Fs.refl [] w3).drew) (by simp))
      have HXd := Lib.hid (RAt.fs HX3.out ((Fs.refl [] w3).drew) (by simp))
      have HKd := Lib.hid (HK3.out.trans (((Fs.refl [] w3).drew).kt.mono (by simp)))
      refine region_ord [(0, true), (1, true), (2, true), (3, true), (4, true), (5, true), (6, false), (7, true), (8, false), (9, false), (10, true), (11, true), (12, false)] (fun w' => w'.cell? ⟨m, 25, none⟩ = some (.slice ao N co)) mixed (by kernel_rfl) (by kernel_rfl) rfl (by intro c' a' d' v' w' h; cases d' <;> exact h) hvo ?_
      iterate 6 (apply wpOrd_pure rfl rfl; apply Exists.intro; refine ⟨fun w' hS => ?_, ?_⟩; (· (first | (go_simp; done) | (go_simp; with_reducible rfl))); simp only [List.getElem_toArray, List.getElem_cons_succ, List.getElem_cons_zero, Act.put, List.setIfInBounds_toArray, List.set_cons_zero, List.set_cons_succ])
      refine wpOrd_run rfl rfl (fun K hK => ?_)
      go_simp
      refine (num_ok 4 w3.drew (by omega) HGd.out hgy HPd.out).mono ?_
      rintro e w5 ⟨rfl, hr, hf⟩
      have hXl : (rnum 4 sp3).2.2.length ≤ sp3.2.length := by
        unfold rnum
        split
        · simp [rfail]
        · simp
      have hYl := rnum_lt (k := 4) (st := sp3)
      obtain ⟨Y, hYd⟩ : ∃ Y, Y = rnum 4 sp3 := ⟨_, rfl⟩
      have hYe : Hid (rnum 4 sp3 = Y) := Lib.hid hYd.symm
      rw [← hYd] at hr hXl hYl ⊢
      clear hYd
      obtain ⟨yv, sp5⟩ := Y
      simp only at hr hXl hYl ⊢
      have hw32 : IntKind.u32.wrap ((yv : Nat) : Int) = (yv : Int) := by simp [IntKind.wrap, IntKind.signed, IntKind.bits]; omega
      have hvo2 : w5.cell? ⟨m, 25, none⟩ = some (.slice ao N co) := (World.cell?_of_block (hf.keep m (HB3.out.lt (b := 0) rfl) hmy)).trans hvo
      refine hK _ _ (fun _ => hvo2) ?_
      clear hK K
      have HB5a := Lib.hid (HB3.out.drew.rd1 (hf.fs (l := [y]) (by simp)) hy0 HPd.out HX.out.hm (ownOK_set (rV_ok (f := { f with psks := f.psks ++ don }) HX.out.hr) (by decide)))
      have HX5a := Lib.hid (HXd.out.fs (hf.fs (l := [y]) (by simp)) (by simpa using hxy))
      have HG5a := Lib.hid ((hf.keep g (lt_of_heap HGd.out) hgy).trans HGd.out)
      have HP5a := Lib.hid hr
      have HK5a := Lib.hid (HKd.out.trans ((hf.fs (l := [y, m, x]) (by simp)).kt))
      clear hr hf
      try simp only [List.getElem_toArray, List.getElem_cons_succ, List.getElem_cons_zero, Act.put, List.setIfInBounds_toArray, List.set_cons_zero, List.set_cons_succ]
      iterate 1 (apply wpOrd_pure rfl rfl; apply Exists.intro; refine ⟨fun w' hS => ?_, ?_⟩; (· (first | (go_simp; done) | (go_simp; with_reducible rfl))); simp only [List.getElem_toArray, List.getElem_cons_succ, List.getElem_cons_zero, Act.put, List.setIfInBounds_toArray, List.set_cons_zero, List.set_cons_succ])
      obtain ⟨ao1, co1, us1, v1, wa, hvo3, hR1, hrun, ⟨ao2, co2, rfl⟩, hK1, hc1, hz1', hg1, hB1⟩ := (HB5a.out.push (.cells #[.int .u32 (yv : Nat)] 143)).appX (i := 25) rfl (by decide) 50 50 i0 (.int .u32 0) 4 Try.underlying50 hi hz0 hz1 hz2 rfl (by decide) ⟨w5.heap.size, 0, none⟩ 1 1 [.int .u32 (yv : Nat)] rfl
        (fun j u hu => by
          match j, hu with
          | 0, hu => simp at hu; subst hu; exact World.cell?_alloc_new _ _ _ _) (fun u hu => by simp at hu; subst hu; rfl) (by show ((f.psks ++ don).map (·.2)).length + 1 ≤ maxLen; unfold maxLen; omega) (by show (((f.psks ++ don).map (·.2)).length + 1) * 4 ≤ 140737488355328; omega)
      rw [← HNN.out] at hvo3 hR1 hrun hc1
      have hvo4 : (w5.alloc (.cells #[.int .u32 (yv : Nat)] 143)).cell? ⟨m, 25, none⟩ = some (.slice ao N co) := (World.cell?_alloc_lt _ _ _ (HB5a.out.lt (b := 0) rfl)).trans hvo2
      rw [hvo4] at hvo3
      cases hvo3
      have HN := Lib.hid (hB1 (ShowU4 ((f.psks ++ don).map (·.2) ++ [yv])) ((f.psks ++ don).map (·.2) ++ [yv]).length (by rw [List.length_append]; rfl) (hR1.1.snoc))
      have HRUN := Lib.hid hrun
      have HKA := Lib.hid hK1
      have HGA := Lib.hid hg1
      clear hrun hB1 hR1 hK1 hg1 hvo2
      refine wpOrd_run rfl rfl (fun K hK => ?_)
      go_simp
      refine hK _ _ (fun _ => hvo4) ?_
      clear hK K
      refine wpOrd_run rfl rfl (fun K hK => ?_)
      refine wp_append_run (.tmp 30) (.tmp 34) 50 rfl _ _ rfl rfl HRUN.out ?_
      refine hK _ _ (fun _ => hc1) ?_
      clear hK K
      try simp only [List.getElem_toArray, List.getElem_cons_succ, List.getElem_cons_zero, Act.put, List.setIfInBounds_toArray, List.set_cons_zero, List.set_cons_succ]
      iterate 2 (apply wpOrd_pure rfl rfl; apply Exists.intro; refine ⟨fun w' hS => ?_, ?_⟩; (· (first | (go_simp; done) | (go_simp; with_reducible rfl))); simp only [List.getElem_toArray, List.getElem_cons_succ, List.getElem_cons_zero, Act.put, List.setIfInBounds_toArray, List.set_cons_zero, List.set_cons_succ])
      refine wpOrd_last rfl rfl (by kernel_rfl) (fun K hK => ?_)
      simp only [List.getElem_toArray, List.getElem_cons_succ, List.getElem_cons_zero]
      go_simp
      refine hK _ _ ?_
      refine wpOrd_nil ?_
      clear hK K
      have HX5 := Lib.hid (((HX5a.out.fs ((Fs.refl [] _).push (.cells #[.int .u32 (yv : Nat)] 143)) (by simp)).kt HKA.out (by simp)).setOther m 25 (.slice ao2 (N + 1) co2) hxm)
      have HP5 := Lib.hid (((HP5a.out.fs ((Fs.refl [] _).push (.cells #[.int .u32 (yv : Nat)] 143)) (by simp)).kt HKA.out (by simp)).setOther m 25 (.slice ao2 (N + 1) co2) hym)
      have HK5 := Lib.hid (((HK5a.out.alloc (.cells #[.int .u32 (yv : Nat)] 143)).trans (HKA.out.mono (by simp))).setCell m 25 (.slice ao2 (N + 1) co2) (by simp))
      have HG5 : Hid ((wa.setCell ⟨m, 25, none⟩ (.slice ao2 (N + 1) co2)).heap[g]? = some (.cells C T fr)) := Lib.hid (by
        rw [Below.heap_setCell _ _ _ _ hgm, HGA.out, Below.heap_alloc _ _ _ (lt_of_heap HG5a.out)]
        exact HG5a.out)
      have hNb := HN.out
      rw [← HNN.out] at hNb
      have HB5 := Lib.hid hNb
      clear hNb
      obtain ⟨w5, hw5⟩ : ∃ W, W = wa.setCell ⟨m, 25, none⟩ (.slice ao2 (N + 1) co2) := ⟨_, rfl⟩
      rw [← hw5] at HX5 HP5 HK5 HG5 HB5 ⊢
      clear HGd HPd HXd HKd HN HRUN HKA HGA hc1 hz1' hvo hvo4 hw5 HNN hNle HB5a HX5a HG5a HP5a HK5a
      go_wp2_with fail
      have he1 := HE1.out
      have he2 := HE2.out
      rw [rid_succ fu (code, bs) h0, hZe.out] at he1 he2
      simp only at he1 he2
      rw [hYe.out] at he1 he2
      simp only at he1 he2
      refine ⟨⟨don ++ [(zv, yv)], sp5, fu, ?_, HP5.out, HX5.out, HK5.out, HG5.out, by omega, by simp; omega, by rw [List.append_assoc]; exact he1, he2⟩, ?_⟩
      · rw [← List.append_assoc, rV_psk]
        exact HB5.out
      · rw [HP5.out.cellLen, hcl2.out]; simp only; omega

end
end Go.Proofs.Ytopcljikkdlffaa
