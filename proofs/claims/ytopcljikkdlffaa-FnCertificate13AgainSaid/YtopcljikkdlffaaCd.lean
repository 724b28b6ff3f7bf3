/- A Certificate of TLS 1.3 is read by package tls. No statement of the seat is proved here. -/
import Derived.Test.YtopcljikkdlffaaCc
import Derived.Test.YtopcljikkdlffaaIb
namespace Go.Proofs.Ytopcljikkdlffaa
open Go.RowKit

@[go_sem] theorem neNilRows (w : World) (a : Option Addr) (n c : Nat) : (binOp .neq 29 (.slice a n c) (.slice none 0 0)).run Try.prog w = .ok (.bool (!a.isNone)) w :=
  run_neq_slice_nil_any w _ _ a n c 0 0 Try.underlying29

/-- A list of certificates, and what is left. -/
def ucRead (ps : List UInt8) : Option (C13 × List UInt8) := (rdv 3 ps).bind fun l => (c13Certs l.1.length {} l.1).map fun f => (f, l.2)

def UcPost (w0 : World) (C : Array Value) (g m pB : Nat) (ps : List UInt8) (e : Ending) (w' : World) : Prop :=
  (ucRead ps = none ∧ e = .returned (.bool false) ∧ Fs [m] w0 w') ∨ ∃ f r, ucRead ps = some (f, r) ∧ e = .returned (.bool true) ∧ Bn w0 C g m [(m, c13F C g f), (pB, [.vw r])] none w'

set_option maxRecDepth 100000 in
set_option maxHeartbeats 4000000 in
theorem uc_ok {w0 : World} {C : Array Value} {g m pB : Nat} {ps : List UInt8} (w : World) (hps : ps.length ≤ 4294967296) (hb : Bn w0 C g m [(m, c13F C g {}), (pB, [.vw ps])] none w) :
    Calls Try.prog 104 #[.pointer (some ⟨pB, 0, none⟩), .pointer (some ⟨m, 0, none⟩)] w (UcPost w0 C g m pB ps) := by
  have HB := Lib.hid hb
  clear hb
  go_enter Try.func104, Try.ntmps104
  go_wp2_with fail
  have HB1 := Lib.hid (HB.out.one (.slice none 0 0) 152 .any rfl trivial)
  obtain ⟨lB, hlB⟩ : ∃ x, x = w.heap.size := ⟨_, rfl⟩
  rw [← hlB] at HB1 ⊢
  clear hlB
  cases hr : rdv 3 ps with
  | none =>
    have HR := Lib.hid hr
    clear hr
    refine (br24_no HB1.out HR.out (b := 1) (i := 0) rfl rfl _).mono ?_
    rintro e wx ⟨rfl, hf⟩
    have HF := Lib.hid hf
    clear hf
    go_wp2_with fail
    go_ret
    exact .inl ⟨by simp [ucRead, HR.out], rfl, HF.out⟩
  | some y =>
    obtain ⟨l, r⟩ := y
    have HR := Lib.hid hr
    have hll : l.length ≤ ps.length := by rw [(rdv_some hr).1]; simp; omega
    clear hr
    refine (br24 HB1.out HR.out (b := 1) (i := 0) rfl rfl (c := 2) (j := 0) rfl rfl (.vw l) rfl (fun _ h => h) (by decide)).mono ?_
    rintro e w1 ⟨rfl, hb⟩
    have hb : Bn w0 C g m [(m, c13F C g {}), (pB, [.vw r]), (lB, [.vw l])] none w1 := hb
    have HB2 := Lib.hid hb
    clear hb
    go_wp2_with fail
    refine wp_loop (UdInv w0 C g m pB lB r 4294967296 (c13Certs l.length {} l)) (fun _ w' => cellLen w' lB)
      ⟨rfl, rfl, rfl, rfl, {}, l, l.length, HB2.out, Nat.le_refl _, rfl, by show 0 + l.length ≤ _; omega, by show 0 + l.length ≤ _; omega⟩
      (fun a' w' hI => uc_cert_round (Nat.le_refl _) ?_ ?_ ?_ hI)
    · intro c a d v w h
      cases d <;> exact h
    · intro f' a'' w'' hf' hb' hdf hsz''
      obtain ⟨s'', dl⟩ := a''
      simp only at hdf hsz''
      subst hdf
      obtain ⟨z, rfl⟩ := arr105 s'' hsz''
      have HX := Lib.hid (show ucRead ps = some (f', r) by simp [ucRead, HR.out, hf'])
      have HBX := Lib.hid hb'
      clear hf' hb' hsz''
      simp only [Exit.then, Exit.inBlock]
      rw [if_pos trivial]
      go_wp2_with fail
      go_ret
      exact .inr ⟨f', r, HX.out, rfl, HBX.out⟩
    · intro a'' w'' hnone hF' hdf h4
      have hn : ucRead ps = none := by simp [ucRead, HR.out, hnone]
      have hg4 : a''.tmps.getD 4 undef = .bool false := by
        rw [Array.getD_eq_getD_getElem?, h4]; rfl
      simp only [Exit.then, Exit.inBlock]
      exact bodyPost_ret (by rw [results_tmp rfl, hg4]) hdf (.inl ⟨hn, rfl, hF'⟩)

theorem c13Read_uc {bs a r c r2 : List UInt8} (h1 : rd 4 bs = some (a, r)) (h2 : rdv 1 r = some (c, r2)) (hc : c = []) : c13Read bs = (ucRead r2).bind fun y => if y.2 = [] then some y.1 else none := by
  unfold c13Read ucRead
  rw [h1, Option.bind_some]
  simp only
  rw [h2, Option.bind_some]
  simp only
  rw [if_pos hc]
  cases rdv 3 r2 with
  | none => rfl
  | some l => cases h : c13Certs l.1.length {} l.1 <;> simp [h]

/-- The cells of a certificateMsgTLS13 that nothing was said of. -/
def zero5 : Array Value := #[.slice none 0 0, .slice none 0 0, .slice none 0 0, .bool false, .bool false]

/-- The cells of a certificateMsgTLS13, read whole. -/
def c13G (C : Array Value) (g : Nat) (f : C13) : List FD := [.own 22 1 f.certs.length (ShowL C g f.certs), .vz f.staple, .own 22 1 f.stamps.length (ShowL C g f.stamps), .val (.bool (decide (f.staple ≠ []))), .val (.bool (decide (f.stamps ≠ [])))]

def CuPost (w : World) (C : Array Value) (g m : Nat) (bs : List UInt8) (e : Ending) (w' : World) : Prop :=
  (c13Read bs = none ∧ e = .returned (.bool false) ∧ Fs [m] w w') ∨ ∃ f, c13Read bs = some f ∧ e = .returned (.bool true) ∧ Bn w C g m [(m, c13G C g f)] none w'

theorem c13F_start {w W : World} {C : Array Value} {g m : Nat} {T Tg : TypeId} {fr : Nat × Nat} (hfs : Fs [m] w W) (hgm : g ≠ m) (hg : w.heap[g]? = some (.cells C Tg fr)) (hm : W.heap[m]? = some (.cells zero5 T (0, 0))) : Bn w C g m [(m, c13F C g {})] none W := by
  refine Bn.start hfs hgm hg hm rfl fun i fd hi => ?_
  match i, hi with
  | 0, hi => cases hi; exact ⟨_, rfl, ⟨[], World.ownsRow_nil _ _ _ _, ShowL.nil⟩, fun _ => rfl⟩
  | 1, hi => cases hi; exact ⟨_, rfl, .inl ⟨rfl, rfl⟩, fun _ => rfl⟩
  | 2, hi => cases hi; exact ⟨_, rfl, ⟨[], World.ownsRow_nil _ _ _ _, ShowL.nil⟩, fun _ => rfl⟩
  | 3, hi => cases hi; exact ⟨_, rfl, rfl, fun _ => rfl⟩
  | 4, hi => cases hi; exact ⟨_, rfl, rfl, fun _ => rfl⟩

theorem own_nil {w : World} {base size n : Nat} {e : TypeId} {C : Array Value} {g : Nat} {L : List (List UInt8)} {v : Value} {us : List Value} (h : w.ownsRow base e size v n us) (hn : n = L.length) (hR : ShowL C g L v us) :
    ∃ ao cap, v = .slice ao n cap ∧ ao.isNone = decide (L = []) := by
  by_cases h0 : L = []
  · subst h0
    have e := hR.1 rfl
    subst e
    exact ⟨none, 0, by rw [hn]; rfl, rfl⟩
  · rcases h.2 with ⟨_, h2⟩ | ⟨p, cap, cur, rfl, _⟩
    · rw [hn] at h2
      exact absurd (List.length_eq_zero_iff.1 h2) h0
    · exact ⟨_, _, rfl, by simp [h0]⟩

set_option maxRecDepth 100000 in
set_option maxHeartbeats 4000000 in
theorem cu_ok {C : Array Value} {m g : Nat} {T : TypeId} {fr : Nat × Nat} {v : Value} {bs : List UInt8} (w : World) (hm : w.heap[m]? = some (.cells zero5 136 (0, 0))) (hg : w.heap[g]? = some (.cells C T fr)) (hgm : g ≠ m)
    (hV : View C g v bs) (hbs : bs.length ≤ 4294967296) : Calls Try.prog 85 #[.pointer (some ⟨m, 0, none⟩), v] w (CuPost w C g m bs) := by
  obtain ⟨off, cap, rfl, hcl⟩ := hV.slice
  have HV := Lib.hid hV
  have HM := Lib.hid hm
  obtain ⟨W, hW⟩ : ∃ x, x = w.setRow m zero5 := ⟨_, rfl⟩
  have hWm : W.heap[m]? = some (.cells zero5 136 (0, 0)) := by rw [hW]; exact setRow_heap _ _ _ _ _ _ hm
  have hWf : Fs [m] w W := by rw [hW]; exact ⟨rfl, rfl, rfl, by rw [size_setRow]; exact Nat.le_refl _, fun k _ hn => setRow_other _ _ _ _ (fun e => hn (by simp [e]))⟩
  have HB0 := Lib.hid (c13F_start hWf hgm hg hWm)
  have HW := Lib.hid hW
  clear hV hm hg hW hWm hWf
  go_enter Try.func85, Try.ntmps85
  go_upto_region 1 with fail
  apply wp_region_lit
  iterate 9 (first | (refine wpList_store_row rfl 136 (.tmp 9) (.tmp 8) rfl m zero5 rfl rfl 136 zero5 HM.out (by kernel_rfl) rfl (by simp [zero5, Value.oneCell']) ?_) | go_step)
  refine wpList_store_row rfl 136 (.tmp 9) (.tmp 8) rfl m zero5 rfl rfl 136 zero5 HM.out (by kernel_rfl) rfl (by simp [zero5, Value.oneCell']) ?_
  rw [← HW.out]
  clear HW HM
  go_wp2_with fail
  have HB1 := Lib.hid ((HB0.out.one (.slice (some ⟨g, off, none⟩) bs.length cap) 152 (.vw bs) rfl HV.out).one (.slice none 0 0) 152 .any rfl trivial)
  rw [World.size_alloc] at HB1
  obtain ⟨sB, hsB⟩ : ∃ x, x = W.heap.size := ⟨_, rfl⟩
  rw [← hsB] at HB1 ⊢
  obtain ⟨xB, hxB⟩ : ∃ x, x = sB + 1 := ⟨_, rfl⟩
  rw [← hxB] at HB1 ⊢
  clear hsB hxB HB0 HV
  cases h1 : rd 4 bs with
  | none =>
    have H1 := Lib.hid h1
    have hlt := rd_none h1
    clear h1
    refine (bskip_no 4 HB1.out (by omega) (by omega) (b := 1) (i := 0) rfl rfl).mono ?_
    rintro e wx ⟨rfl, hf⟩
    have HF := Lib.hid hf
    clear hf
    go_wp2_with fail
    go_ret
    exact .inl ⟨by simp [c13Read, H1.out], rfl, HF.out⟩
  | some y =>
    obtain ⟨a, r1⟩ := y
    have H1 := Lib.hid h1
    have hl1 : r1.length ≤ bs.length := by rw [(rd_some h1).1]; simp
    clear h1
    refine (bskip 4 HB1.out (by omega) H1.out (b := 1) (i := 0) rfl rfl).mono ?_
    rintro e w1 ⟨rfl, hb⟩
    have hb : Bn w C g m [(m, c13F C g {}), (sB, [.vw r1]), (xB, [.any])] none w1 := hb
    have HB2 := Lib.hid hb
    clear hb
    go_wp2_with fail
    cases h2 : rdv 1 r1 with
    | none =>
      have H2 := Lib.hid h2
      clear h2
      refine (br8_no HB2.out H2.out (b := 1) (i := 0) rfl rfl _).mono ?_
      rintro e wx ⟨rfl, hf⟩
      have HF := Lib.hid hf
      clear hf
      go_wp2_with fail
      go_ret
      exact .inl ⟨by simp [c13Read, H1.out, H2.out], rfl, HF.out⟩
    | some y =>
      obtain ⟨c, r2⟩ := y
      have H2 := Lib.hid h2
      have hl2 : r2.length ≤ r1.length := by rw [(rdv_some h2).1]; simp; omega
      clear h2
      refine (br8 HB2.out H2.out (b := 1) (i := 0) rfl rfl (c := 2) (j := 0) rfl rfl (.vw c) rfl (fun _ h => h) (by decide)).mono ?_
      rintro e w2 ⟨rfl, hb⟩
      have hb : Bn w C g m [(m, c13F C g {}), (sB, [.vw r2]), (xB, [.vw c])] none w2 := hb
      have HB3 := Lib.hid hb
      obtain ⟨vc, hvc, hVC⟩ := hb.vw (b := 2) (i := 0) rfl rfl
      have HVC := Lib.hid hVC
      clear hb hVC
      go_wp2_with fail
      refine (empty_any _ HVC.out).mono ?_
      rintro e wy ⟨rfl, rfl⟩
      by_cases hc : c = []
      · have HRD := Lib.hid (c13Read_uc H1.out H2.out hc)
        subst hc
        simp only [List.isEmpty_nil]
        clear hvc HVC
        go_wp2_with fail
        refine (uc_ok w2 (by omega) (HB3.out.take 2)).mono ?_
        rintro e w3 (⟨hno, rfl, hf⟩ | ⟨f, r, hyes, rfl, hb⟩)
        · have HN := Lib.hid (show c13Read bs = none by rw [HRD.out, hno]; rfl)
          have HF := Lib.hid hf
          clear hno hf
          go_wp2_with fail
          go_ret
          exact .inl ⟨HN.out, rfl, HF.out⟩
        · have HB4 := Lib.hid hb
          have HY := Lib.hid hyes
          obtain ⟨vr, hvr, hVR⟩ := hb.vw (b := 1) (i := 0) rfl rfl
          have HVR := Lib.hid hVR
          clear hb hyes hVR
          go_wp2_with fail
          refine (empty_any _ HVR.out).mono ?_
          rintro e wy ⟨rfl, rfl⟩
          by_cases hr : r = []
          · subst hr
            have HX := Lib.hid (show c13Read bs = some f by rw [HRD.out, HY.out]; simp)
            simp only [List.isEmpty_nil]
            obtain ⟨v2, us2, hv2, hown2, hR2⟩ := HB4.out.own (b := 0) (i := 2) rfl rfl
            obtain ⟨a2, c2, rfl, ha2⟩ := own_nil hown2 rfl hR2
            have hq4 := HB4.out.val (b := 0) (i := 4) rfl rfl
            have hz4 := HB4.out.frozen (b := 0) rfl 4
            have hS1 := HB4.out.set (b := 0) (i := 4) rfl rfl (.val (.bool a2.isSome)) _ rfl rfl
            have hsc : a2.isSome = decide (f.stamps ≠ []) := by rw [← Option.not_isNone, ha2]; simp
            have HSC := Lib.hid hsc
            have HA2 := Lib.hid ha2
            obtain ⟨v1, hv1, hR1⟩ := HB4.out.at (b := 0) (i := 1) rfl rfl
            have hst : ∃ a1 n1 c1, v1 = .slice a1 n1 c1 ∧ a1.isSome = decide (f.staple ≠ []) := by
              rcases hR1 with ⟨e0, rfl⟩ | ⟨e0, o1, c1, rfl, _⟩
              · exact ⟨_, _, _, rfl, by simp [e0]⟩
              · exact ⟨_, _, _, rfl, by simp [e0]⟩
            obtain ⟨a1, n1, c1, rfl, hst⟩ := hst
            have HST := Lib.hid hst
            have hq3 := HB4.out.val (b := 0) (i := 3) rfl rfl
            have hz3 := HB4.out.frozen (b := 0) rfl 3
            have HS2 := Lib.hid (hS1.set (b := 0) (i := 3) rfl rfl (.val (.bool a1.isSome)) _ rfl rfl)
            clear hown2 hR2 ha2 hS1 hR1 hst hvr HVR hsc
            go_wp2_with fail
            go_ret
            refine .inr ⟨f, HX.out, rfl, ?_⟩
            have h := HS2.out.take 1
            unfold c13G
            rw [← HSC.out, ← HST.out]
            exact h
          · have he : r.isEmpty = false := by simpa using hr
            rw [he]
            have HN := Lib.hid (show c13Read bs = none by rw [HRD.out, HY.out]; simp [hr])
            clear hr he
            go_wp2_with fail
            go_ret
            exact .inl ⟨HN.out, rfl, HB4.out.fs⟩
      · have he : c.isEmpty = false := by simpa using hc
        rw [he]
        have HC := Lib.hid hc
        clear hc he
        go_wp2_with fail
        go_ret
        exact .inl ⟨by simp [c13Read, H1.out, H2.out, HC.out], rfl, HB3.out.fs⟩

set_option maxRecDepth 100000 in
set_option maxHeartbeats 4000000 in
/-- Fewer than four bytes, whatever their address. -/
theorem cu_short {m : Nat} {ad : Option Addr} {n cap : Nat} (w : World) (hm : w.heap[m]? = some (.cells zero5 136 (0, 0))) (h4 : n < 4) :
    Calls Try.prog 85 #[.pointer (some ⟨m, 0, none⟩), .slice ad n cap] w fun e w' => Fs [m] w w' ∧ e = .returned (.bool false) := by
  have HM := Lib.hid hm
  obtain ⟨W, hW⟩ : ∃ x, x = w.setRow m zero5 := ⟨_, rfl⟩
  have HWF : Hid (Fs [m] w W) := by rw [hW]; exact ⟨rfl, rfl, rfl, by rw [size_setRow]; exact Nat.le_refl _, fun k _ hn => setRow_other _ _ _ _ (fun e => hn (by simp [e]))⟩
  have HW := Lib.hid hW
  clear hm hW
  go_enter Try.func85, Try.ntmps85
  go_upto_region 1 with fail
  apply wp_region_lit
  iterate 9 (first | (refine wpList_store_row rfl 136 (.tmp 9) (.tmp 8) rfl m zero5 rfl rfl 136 zero5 HM.out (by kernel_rfl) rfl (by simp [zero5, Value.oneCell']) ?_) | go_step)
  refine wpList_store_row rfl 136 (.tmp 9) (.tmp 8) rfl m zero5 rfl rfl 136 zero5 HM.out (by kernel_rfl) rfl (by simp [zero5, Value.oneCell']) ?_
  rw [← HW.out]
  clear HW HM
  go_wp2_with fail
  refine (skip_no (ao := ad) (len := n) (cap := cap) ⟨W.heap.size, 0, none⟩ 4 _ (by omega) (by omega) (by omega) ?_).mono ?_
  · exact (World.cell?_alloc_lt _ _ _ (by simp)).trans (World.cell?_alloc_new _ _ _ _)
  rintro e wx ⟨rfl, rfl⟩
  go_wp2_with fail
  go_ret
  exact ⟨(HWF.out.push _).push _, rfl⟩

end Go.Proofs.Ytopcljikkdlffaa
