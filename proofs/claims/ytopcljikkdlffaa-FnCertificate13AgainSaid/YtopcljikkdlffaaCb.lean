/- unmarshalCertificate of package tls: one extension of a certificate. No statement of the seat is proved here. -/
import Derived.Test.YtopcljikkdlffaaBv
import Derived.Test.YtopcljikkdlffaaCa
import Derived.Deep.CutBlock
import Derived.Carry
namespace Go.Proofs.Ytopcljikkdlffaa
open Go.RowKit

set_option maxRecDepth 100000 in
theorem arr105 (s : Array Value) (h : s.size = 105) : ∃ z : Nat → Value, s = #[z 0, z 1, z 2, z 3, z 4, z 5, z 6, z 7, z 8, z 9, z 10, z 11, z 12, z 13, z 14, z 15, z 16, z 17, z 18, z 19, z 20, z 21, z 22, z 23, z 24, z 25, z 26, z 27, z 28, z 29, z 30, z 31, z 32, z 33, z 34, z 35, z 36, z 37, z 38, z 39, z 40, z 41, z 42, z 43, z 44, z 45, z 46, z 47, z 48, z 49, z 50, z 51, z 52, z 53, z 54, z 55, z 56, z 57, z 58, z 59, z 60, z 61, z 62, z 63, z 64, z 65, z 66, z 67, z 68, z 69, z 70, z 71, z 72, z 73, z 74, z 75, z 76, z 77, z 78, z 79, z 80, z 81, z 82, z 83, z 84, z 85, z 86, z 87, z 88, z 89, z 90, z 91, z 92, z 93, z 94, z 95, z 96, z 97, z 98, z 99, z 100, z 101, z 102, z 103, z 104] := by
  obtain ⟨z, hz⟩ := arr_of 105 s h
  exact ⟨z, hz⟩

theorem Try.info22b : (Try.prog.info? 22).map (fun i => (i.zero, i.size, i.bytes)) = some (some (.slice none 0 0), 1, 24) := by kernel_rfl

/-- The cells of a certificateMsgTLS13. -/
def c13F (C : Array Value) (g : Nat) (f : C13) : List FD := [.own 22 1 f.certs.length (ShowL C g f.certs), .vz f.staple, .own 22 1 f.stamps.length (ShowL C g f.stamps), .val (.bool false), .val (.bool false)]

noncomputable def ucSwitch : Code := ((Try.f104.body.bind (pblk 4)).getD .skip)
noncomputable def ucExtBody : Code := (((Try.f104.body.bind (pblk 2)).bind ploop).getD .skip)
noncomputable def ucCertBody : Code := ((Try.f104.body.bind ploop).getD .skip)

/-- What later code reads of the frame. -/
def UcFrame (s : Array Value) (m lB eB : Nat) : Prop := s.size = 105 ∧ s[1]? = some (.pointer (some ⟨m, 0, none⟩)) ∧ s[5]? = some (.pointer (some ⟨lB, 0, none⟩)) ∧ s[7]? = some (.pointer (some ⟨eB, 0, none⟩))

/-- What the switch leaves of one extension. -/
def UcSw (w0 : World) (C : Array Value) (g m lB eB dB : Nat) (Bs : C13 → List (Nat × List FD)) (f : C13) (ty : Nat) (d : List UInt8) (e : Exit) (a : Act) (w' : World) : Prop :=
  a.defers = [] ∧ a.tmps.size = 105 ∧
    ((e = .ret ∧ c13Ext f ty d = none ∧ a.tmps[4]? = some (.bool false) ∧ Fs [m] w0 w') ∨
     ∃ f' r, c13Ext f ty d = some (f', r) ∧ UcFrame a.tmps m lB eB ∧
      ((e = .exit 3 ∧ r = [] ∧ Bn w0 C g m (Bs f') none w') ∨ (e = .normal ∧ a.tmps[9]? = some (.pointer (some ⟨dB, 0, none⟩)) ∧ Bn w0 C g m (Bs f' ++ [(dB, [.vw r])]) none w')))

theorem UcSw_panic {w0 : World} {C : Array Value} {g m lB eB dB : Nat} {Bs : C13 → List (Nat × List FD)} {f : C13} {ty : Nat} {d : List UInt8} {c : List PanicEntry} {a : Act} {w' : World} (h : UcSw w0 C g m lB eB dB Bs f ty d (.panic c) a w') : False := by
  obtain ⟨_, _, ⟨h, _⟩ | ⟨_, _, _, _, ⟨h, _⟩ | ⟨h, _⟩⟩⟩ := h <;> cases h

/-- The blocks around one extension. -/
def ucBs (C : Array Value) (g m pB lB cB eB tB : Nat) (ps l c ex : List UInt8) (ty : Nat) (f : C13) : List (Nat × List FD) :=
  [(m, c13F C g f), (pB, [.vw ps]), (lB, [.vw l]), (cB, [.vw c]), (eB, [.vw ex]), (tB, [.val (.int .u16 (ty : Nat))])]

set_option maxRecDepth 100000 in
set_option maxHeartbeats 4000000 in
theorem uc_sw_other {w0 w : World} {C : Array Value} {g m pB lB cB eB tB dB : Nat} {ps l c ex : List UInt8} {f : C13} {d : List UInt8} (z : Nat → Value) (ty : Nat) (h5 : ty ≠ 5) (h18 : ty ≠ 18)
    (hB : Bn w0 C g m (ucBs C g m pB lB cB eB tB ps l c ex ty f ++ [(dB, [.vw d])]) none w) :
    Code.wp Try.prog ucSwitch (UcSw w0 C g m lB eB dB (ucBs C g m pB lB cB eB tB ps l c ex ty) f ty d) ⟨#[z 0, .pointer (some ⟨m, 0, none⟩), z 2, z 3, z 4, .pointer (some ⟨lB, 0, none⟩), z 6, .pointer (some ⟨eB, 0, none⟩), z 8, .pointer (some ⟨dB, 0, none⟩), z 10, z 11, z 12, z 13, z 14, z 15, z 16, z 17, z 18, z 19, z 20, z 21, z 22, z 23, z 24, z 25, z 26, z 27, z 28, z 29, z 30, z 31, z 32, z 33, z 34, z 35, z 36, z 37, z 38, z 39, z 40, z 41, z 42, z 43, z 44, z 45, z 46, z 47, z 48, z 49, .int .u16 ty, z 51, z 52, z 53, z 54, z 55, z 56, z 57, z 58, z 59, z 60, z 61, z 62, z 63, z 64, z 65, z 66, z 67, z 68, z 69, z 70, z 71, z 72, z 73, z 74, z 75, z 76, z 77, z 78, z 79, z 80, z 81, z 82, z 83, z 84, z 85, z 86, z 87, z 88, z 89, z 90, z 91, z 92, z 93, z 94, z 95, z 96, z 97, z 98, z 99, z 100, z 101, z 102, z 103, z 104], []⟩ w := by
  have HB := Lib.hid hB
  clear hB
  have q5 : ¬ ((ty : Nat) : Int) = 5 := by omega
  have q18 : ¬ ((ty : Nat) : Int) = 18 := by omega
  have hx : Hid (c13Ext f ty d = some (f, [])) := Lib.hid (by unfold c13Ext; rw [if_neg h5, if_neg h18])
  clear h5 h18
  conv => arg 2; whnf
  go_wp2_with fail
  exact ⟨rfl, rfl, .inr ⟨f, [], hx.out, ⟨rfl, rfl, rfl, rfl⟩, .inl ⟨rfl, rfl, HB.out.take 6⟩⟩⟩

set_option maxRecDepth 100000 in
set_option maxHeartbeats 4000000 in
theorem uc_sw_5 {w0 w : World} {C : Array Value} {g m pB lB cB eB tB dB : Nat} {ps l c ex : List UInt8} {f : C13} {d : List UInt8} (z : Nat → Value) 
    (hB : Bn w0 C g m (ucBs C g m pB lB cB eB tB ps l c ex 5 f ++ [(dB, [.vw d])]) none w) :
    Code.wp Try.prog ucSwitch (UcSw w0 C g m lB eB dB (ucBs C g m pB lB cB eB tB ps l c ex 5) f 5 d) ⟨#[z 0, .pointer (some ⟨m, 0, none⟩), z 2, z 3, z 4, .pointer (some ⟨lB, 0, none⟩), z 6, .pointer (some ⟨eB, 0, none⟩), z 8, .pointer (some ⟨dB, 0, none⟩), z 10, z 11, z 12, z 13, z 14, z 15, z 16, z 17, z 18, z 19, z 20, z 21, z 22, z 23, z 24, z 25, z 26, z 27, z 28, z 29, z 30, z 31, z 32, z 33, z 34, z 35, z 36, z 37, z 38, z 39, z 40, z 41, z 42, z 43, z 44, z 45, z 46, z 47, z 48, z 49, .int .u16 5, z 51, z 52, z 53, z 54, z 55, z 56, z 57, z 58, z 59, z 60, z 61, z 62, z 63, z 64, z 65, z 66, z 67, z 68, z 69, z 70, z 71, z 72, z 73, z 74, z 75, z 76, z 77, z 78, z 79, z 80, z 81, z 82, z 83, z 84, z 85, z 86, z 87, z 88, z 89, z 90, z 91, z 92, z 93, z 94, z 95, z 96, z 97, z 98, z 99, z 100, z 101, z 102, z 103, z 104], []⟩ w := by
  have HB := Lib.hid hB
  clear hB
  conv => arg 2; whnf
  go_wp2_with fail
  obtain ⟨xB, hxB⟩ : ∃ x, x = w.heap.size := ⟨_, rfl⟩
  have HB1 := Lib.hid (HB.out.one (.int .u8 0) 5 .any rfl trivial)
  rw [← hxB] at HB1 ⊢
  clear hxB
  cases hr : rd 1 d with
  | none =>
    have HR := Lib.hid hr
    clear hr
    refine (bru8_no HB1.out HR.out (b := 6) (i := 0) rfl rfl _).mono ?_
    rintro e w1 ⟨rfl, hf⟩
    have HF := Lib.hid hf
    clear hf
    go_wp2_with fail
    exact ⟨rfl, rfl, .inl ⟨rfl, by simp [c13Ext, HR.out], rfl, HF.out⟩⟩
  | some y =>
    obtain ⟨t, r1⟩ := y
    have HR := Lib.hid hr
    clear hr
    refine (bru8 HB1.out HR.out (b := 6) (i := 0) rfl rfl (c := 7) (j := 0) rfl rfl (by decide)).mono ?_
    rintro e w1 ⟨rfl, hb⟩
    have HB2 := Lib.hid hb
    have q := hb.val (b := 7) (i := 0) rfl rfl
    clear hb
    by_cases ht : be t = 1
    · have HT := Lib.hid ht
      rw [ht] at q
      clear ht
      go_wp2_with fail
      cases hr2 : rdv 3 r1 with
      | none =>
        have HR2 := Lib.hid hr2
        clear hr2
        refine (bt24_no HB2.out HR2.out (b := 6) (i := 0) rfl rfl _).mono ?_
        rintro e w2 ⟨rfl, hf⟩
        have HF := Lib.hid hf
        clear hf q
        go_wp2_with fail
        exact ⟨rfl, rfl, .inl ⟨rfl, by simp [c13Ext, HR.out, HT.out, HR2.out], rfl, HF.out⟩⟩
      | some y =>
        obtain ⟨x, r⟩ := y
        have HR2 := Lib.hid hr2
        clear hr2
        refine (bt24 HB2.out HR2.out (b := 6) (i := 0) rfl rfl (c := 0) (j := 1) rfl rfl (.vw x) rfl (fun _ h => h) (by decide)).mono ?_
        rintro e w2 ⟨rfl, hb⟩
        have HB3 := Lib.hid hb
        obtain ⟨v, hv, hvn⟩ := hb.vw (b := 0) (i := 1) rfl rfl
        obtain ⟨av, cv, rfl, _⟩ := hvn.slice
        clear hb hvn q
        by_cases h0 : x = []
        · subst h0
          go_wp2_with fail
          exact ⟨rfl, rfl, .inl ⟨rfl, by simp [c13Ext, HR.out, HT.out, HR2.out], rfl, HB3.out.fs⟩⟩
        · have hl0 : ¬ x.length = 0 := fun h => h0 (List.length_eq_zero_iff.1 h)
          have hl1 : ¬ ((x.length : Nat) : Int) = 0 := by omega
          have hl2 : (((x.length : Nat) : Int) == 0) = false := by simpa using hl0
          have H0 := Lib.hid h0
          have hb : Bn w0 C g m (ucBs C g m pB lB cB eB tB ps l c ex 5 { f with staple := x } ++ [(dB, [.vw r])] ++ [(xB, [.val (.int .u8 (be t : Nat))])]) none w2 :=
            HB3.out.weak (b := 0) (i := 1) rfl rfl (.vz x) (fun _ h => .inr ⟨h0, h⟩) (fun e => by cases e)
          have HB3 := Lib.hid hb
          clear h0 hb
          go_wp2_with fail
          exact ⟨rfl, rfl, .inr ⟨{ f with staple := x }, r, by simp [c13Ext, HR.out, HT.out, HR2.out, H0.out], ⟨rfl, rfl, rfl, rfl⟩, .inr ⟨rfl, rfl, HB3.out.take 7⟩⟩⟩
    · have HT := Lib.hid ht
      have q1 : ¬ ((be t : Nat) : Int) = 1 := by omega
      have q2 : (((be t : Nat) : Int) != 1) = true := by simp; omega
      clear ht
      go_wp2_with fail
      exact ⟨rfl, rfl, .inl ⟨rfl, by simp [c13Ext, HR.out, HT.out], rfl, HB2.out.fs⟩⟩

set_option maxRecDepth 100000 in
set_option maxHeartbeats 4000000 in
theorem uc_sw_18 {w0 w : World} {C : Array Value} {g m pB lB cB eB tB dB : Nat} {ps l c ex : List UInt8} {f : C13} {d : List UInt8} (z : Nat → Value) (hsz : f.stamps.length + d.length ≤ 4294967296)
    (hB : Bn w0 C g m (ucBs C g m pB lB cB eB tB ps l c ex 18 f ++ [(dB, [.vw d])]) none w) :
    Code.wp Try.prog ucSwitch (UcSw w0 C g m lB eB dB (ucBs C g m pB lB cB eB tB ps l c ex 18) f 18 d) ⟨#[z 0, .pointer (some ⟨m, 0, none⟩), z 2, z 3, z 4, .pointer (some ⟨lB, 0, none⟩), z 6, .pointer (some ⟨eB, 0, none⟩), z 8, .pointer (some ⟨dB, 0, none⟩), z 10, z 11, z 12, z 13, z 14, z 15, z 16, z 17, z 18, z 19, z 20, z 21, z 22, z 23, z 24, z 25, z 26, z 27, z 28, z 29, z 30, z 31, z 32, z 33, z 34, z 35, z 36, z 37, z 38, z 39, z 40, z 41, z 42, z 43, z 44, z 45, z 46, z 47, z 48, z 49, .int .u16 18, z 51, z 52, z 53, z 54, z 55, z 56, z 57, z 58, z 59, z 60, z 61, z 62, z 63, z 64, z 65, z 66, z 67, z 68, z 69, z 70, z 71, z 72, z 73, z 74, z 75, z 76, z 77, z 78, z 79, z 80, z 81, z 82, z 83, z 84, z 85, z 86, z 87, z 88, z 89, z 90, z 91, z 92, z 93, z 94, z 95, z 96, z 97, z 98, z 99, z 100, z 101, z 102, z 103, z 104], []⟩ w := by
  have HB := Lib.hid hB
  clear hB
  conv => arg 2; whnf
  go_wp2_with fail
  obtain ⟨sB, hsB⟩ : ∃ x, x = w.heap.size := ⟨_, rfl⟩
  have HB1 := Lib.hid (HB.out.one (.slice none 0 0) 152 .any rfl trivial)
  rw [← hsB] at HB1 ⊢
  clear hsB
  cases hr : rdv 2 d with
  | none =>
    have HR := Lib.hid hr
    clear hr
    refine (br16_no HB1.out HR.out (b := 6) (i := 0) rfl rfl _).mono ?_
    rintro e w1 ⟨rfl, hf⟩
    have HF := Lib.hid hf
    clear hf
    go_wp2_with fail
    exact ⟨rfl, rfl, .inl ⟨rfl, by simp [c13Ext, HR.out], rfl, HF.out⟩⟩
  | some y =>
    obtain ⟨L, r⟩ := y
    have HR := Lib.hid hr
    have hLd : L.length ≤ d.length := by rw [(rdv_some hr).1]; simp; omega
    clear hr
    refine (br16 HB1.out HR.out (b := 6) (i := 0) rfl rfl (c := 7) (j := 0) rfl rfl (.vw L) rfl (fun _ h => h) (by decide)).mono ?_
    rintro e w1 ⟨rfl, hb⟩
    have hb : Bn w0 C g m (ucBs C g m pB lB cB eB tB ps l c ex 18 f ++ [(dB, [.vw r]), (sB, [.vw L])]) none w1 := hb
    have HB2 := Lib.hid hb
    obtain ⟨vs, hvs, hV⟩ := hb.vw (b := 7) (i := 0) rfl rfl
    have HV := Lib.hid hV
    clear hb hV
    go_wp2_with fail
    refine (empty_any _ HV.out).mono ?_
    rintro e w2 ⟨rfl, rfl⟩
    by_cases h0 : L = []
    · subst h0
      simp only [List.isEmpty_nil]
      go_wp2_with fail
      exact ⟨rfl, rfl, .inl ⟨rfl, by simp [c13Ext, HR.out], rfl, HB2.out.fs⟩⟩
    · have he0 : L.isEmpty = false := by simpa using h0
      rw [he0]
      have H0 := Lib.hid h0
      clear h0 he0 hvs HV
      go_wp2_with fail
      go_loopw [] (fun wr => ∃ (don : List (List UInt8)) (s : List UInt8) (n : Nat), Bn w0 C g m (ucBs C g m pB lB cB eB tB ps l c ex 18 { f with stamps := f.stamps ++ don } ++ [(dB, [.vw r]), (sB, [.vw s])]) none wr ∧ s.length ≤ n ∧
        (tvecs 2 n s).map (don ++ ·) = tvecs 2 L.length L ∧ don.length + s.length ≤ L.length) (fun wr => cellLen wr sB)
      case atStart =>
        exact ⟨[], L, L.length, by rw [List.append_nil]; exact HB2.out, Nat.le_refl _, by simp, by simp⟩
      case round =>
        obtain ⟨don, s, n, hb, hn, htv, hlen⟩ := hrel
        obtain ⟨S, hS⟩ : ∃ S, S = f.stamps ++ don := ⟨_, rfl⟩
        have hSl : S.length ≤ f.stamps.length + don.length := by rw [hS]; simp
        rw [← hS] at hb
        have HSS := Lib.hid hS
        clear hS
        have HB3 := Lib.hid hb
        have HTV := Lib.hid htv
        have HCL := Lib.hid (hb.len (b := 7) (F := []) rfl)
        obtain ⟨vs, hvs, hV⟩ := hb.vw (b := 7) (i := 0) rfl rfl
        have HV := Lib.hid hV
        clear hb htv hV
        go_wp2_with fail
        refine (empty_any _ HV.out).mono ?_
        rintro e w2 ⟨rfl, rfl⟩
        by_cases hs0 : s = []
        · subst hs0
          have hT : tvecs 2 L.length L = some don := by
            have h := HTV.out
            have hz : tvecs 2 n ([] : List UInt8) = some [] := by cases n <;> rfl
            rw [hz] at h
            simpa using h.symm
          have HT := Lib.hid hT
          clear hT
          simp only [List.isEmpty_nil]
          go_wp2_with fail
          exact ⟨rfl, rfl, .inr ⟨{ f with stamps := S }, r, by simp [c13Ext, HR.out, H0.out, HT.out, HSS.out], ⟨rfl, rfl, rfl, rfl⟩, .inr ⟨rfl, rfl, HB3.out.take 7⟩⟩⟩
        · have he0 : s.isEmpty = false := by simpa using hs0
          rw [he0]
          obtain ⟨n, rfl⟩ : ∃ n', n = n' + 1 := ⟨n - 1, by have := List.length_pos_iff.2 hs0; omega⟩
          have HTV2 := Lib.hid (tvecs_succ (k := 2) (n := n) hs0)
          clear he0 hs0 hvs HV
          go_wp2_with fail
          obtain ⟨vB, hvB⟩ : ∃ x, x = wr.heap.size := ⟨_, rfl⟩
          have HB4 := Lib.hid (HB3.out.one (.slice none 0 0) 22 .any rfl trivial)
          rw [← hvB] at HB4 ⊢
          clear hvB
          cases hr2 : rdv 2 s with
          | none =>
            have hx : c13Ext f 18 d = none := by
              have h := HTV.out
              rw [HTV2.out, hr2] at h
              simp [c13Ext, HR.out, H0.out, ← h]
            have HX := Lib.hid hx
            have HR2 := Lib.hid hr2
            clear hr2 hx
            refine (bt16_no HB4.out HR2.out (b := 7) (i := 0) rfl rfl _).mono ?_
            rintro e w3 ⟨rfl, hf⟩
            have HF := Lib.hid hf
            clear hf
            go_wp2_with fail
            exact ⟨rfl, rfl, .inl ⟨rfl, HX.out, rfl, HF.out⟩⟩
          | some y =>
            obtain ⟨x, s2⟩ := y
            have hxl : s.length = 2 + x.length + s2.length := by rw [(rdv_some hr2).1]; simp [en_length]; omega
            have HTV3 : Hid ((if x = [] then none else (tvecs 2 n s2).map (x :: ·)).map (don ++ ·) = tvecs 2 L.length L) := by
              rw [← HTV.out, HTV2.out, hr2]; rfl
            have HR2 := Lib.hid hr2
            clear hr2
            refine (bt16 HB4.out HR2.out (b := 7) (i := 0) rfl rfl (c := 8) (j := 0) rfl rfl (.vw x) rfl (fun _ h => h) (by decide)).mono ?_
            rintro e w3 ⟨rfl, hb⟩
            have hb : Bn w0 C g m (ucBs C g m pB lB cB eB tB ps l c ex 18 { f with stamps := S } ++ [(dB, [.vw r]), (sB, [.vw s2]), (vB, [.vw x])]) none w3 := hb
            have HB6 := Lib.hid hb
            obtain ⟨u, hu, hU⟩ := hb.vw (b := 8) (i := 0) rfl rfl
            have HU := Lib.hid hU
            obtain ⟨ou, cu, hus, _⟩ := hU.slice
            subst hus
            clear hb hU
            by_cases hx0 : x = []
            · subst hx0
              have hx : c13Ext f 18 d = none := by
                have h := HTV3.out
                simp at h
                simp [c13Ext, HR.out, H0.out, ← h]
              have HX := Lib.hid hx
              clear hx
              go_wp2_with fail
              exact ⟨rfl, rfl, .inl ⟨rfl, HX.out, rfl, HB6.out.fs⟩⟩
            · have hl0 : ¬ x.length = 0 := fun h => hx0 (List.length_eq_zero_iff.1 h)
              have hl1 : ¬ ((x.length : Nat) : Int) = 0 := by omega
              have hl2 : (((x.length : Nat) : Int) == 0) = false := by simpa using hl0
              have HTV4 : Hid (((tvecs 2 n s2).map (x :: ·)).map (don ++ ·) = tvecs 2 L.length L) := by
                have h := HTV3.out
                rwa [if_neg hx0] at h
              clear hx0
              go_wp2_with fail
              obtain ⟨i0, hi, hz0, hz1, hz2⟩ := info_parts Try.info22
              obtain ⟨vf, us, v', w', hvf, ⟨ao, co, rfl⟩, hRold, hrun, hv4, hz4, ⟨ao', co', rfl⟩, hoth, hB'⟩ := (((HB6.out.drew).push (.cells #[.slice (some ⟨g, ou, none⟩) x.length cu] 22)).grow (b := 0) (i := 2) rfl rfl 29 29 i0 (.slice none 0 0) 24 Try.underlying29 hi hz0 hz1 hz2 rfl (by decide) ⟨w3.heap.size, 0, none⟩ 1 1 [.slice (some ⟨g, ou, none⟩) x.length cu] rfl
                (fun j u hu => by
                  match j, hu with
                  | 0, hu => simp at hu; subst hu; exact World.cell?_alloc_new _ _ _ _) (fun u hu => by simp at hu; subst hu; rfl) (by show S.length + 1 ≤ maxLen; unfold maxLen; omega) (by show (S.length + 1) * 24 ≤ 140737488355328; omega))
              have hvf0 : w3.cell? ⟨m, 2, none⟩ = some (.slice ao S.length co) := by
                rw [← hvf]; exact (World.cell?_alloc_lt _ _ _ (HB6.out.lt (b := 0) rfl)).symm
              have hq4 : w'.cell? ⟨vB, 0, none⟩ = some (.slice (some ⟨g, ou, none⟩) x.length cu) := ((hoth 8 _ _ 0 rfl).trans (World.cell?_alloc_lt _ _ _ (HB6.out.lt (b := 8) rfl))).trans hu
              have HN := Lib.hid (hB' (ShowL C g (S ++ [x])) (S ++ [x]).length (by simp) (hRold.1.snoc (by simpa using hRold.2) (.inr HU.out)))
              have HRUN := Lib.hid hrun
              have hml0 := HB6.out.lt (b := 0) rfl
              have hql0 := HB6.out.lt (b := 8) rfl
              clear hrun hoth hB' hRold hvf
              refine region_ord [(0, true), (1, true), (2, true), (3, true), (4, true), (5, true), (6, false), (7, false), (8, true), (9, true), (10, false)] (fun w' => w'.cell? ⟨m, 2, none⟩ = some (.slice ao S.length co) ∧ w'.cell? ⟨vB, 0, none⟩ = some (.slice (some ⟨g, ou, none⟩) x.length cu)) mixed (by kernel_rfl) (by kernel_rfl) rfl (fun c' a' d' v' w' h => (UcSw_panic h).elim) ⟨hvf0, hu⟩ ?_
              iterate 6 (apply wpOrd_pure rfl rfl; apply Exists.intro; refine ⟨fun w' hS => ?_, ?_⟩; (· (have hS1 := hS.1; have hS2 := hS.2; clear hS; first | (go_simp; done) | (go_simp; with_reducible rfl))); simp only [List.getElem_toArray, List.getElem_cons_succ, List.getElem_cons_zero, Act.put, List.setIfInBounds_toArray, List.set_cons_zero, List.set_cons_succ])
              refine wpOrd_run rfl rfl (fun K hK => ?_)
              go_simp
              refine hK _ _ (fun _ => ⟨(World.cell?_alloc_lt _ _ _ hml0).trans hvf0, (World.cell?_alloc_lt _ _ _ hql0).trans hu⟩) ?_
              clear hK K
              refine wpOrd_run rfl rfl (fun K hK => ?_)
              refine wp_append_run (.tmp 96) (.tmp 98) 29 rfl _ _ rfl rfl HRUN.out ?_
              refine hK _ _ (fun _ => ⟨hv4, hq4⟩) ?_
              clear hK K
              simp only [List.getElem_toArray, List.getElem_cons_succ, List.getElem_cons_zero, Act.put, List.setIfInBounds_toArray, List.set_cons_zero, List.set_cons_succ]
              iterate 2 (apply wpOrd_pure rfl rfl; apply Exists.intro; refine ⟨fun w' hS => ?_, ?_⟩; (· (have hS1 := hS.1; have hS2 := hS.2; clear hS; first | (go_simp; done) | (go_simp; with_reducible rfl))); simp only [List.getElem_toArray, List.getElem_cons_succ, List.getElem_cons_zero, Act.put, List.setIfInBounds_toArray, List.set_cons_zero, List.set_cons_succ])
              refine wpOrd_last rfl rfl (by kernel_rfl) (fun K hK => ?_)
              simp only [List.getElem_toArray, List.getElem_cons_succ, List.getElem_cons_zero]
              go_simp
              refine hK _ _ ?_
              refine wpOrd_nil ?_
              clear hK K
              have HB7 := HN
              clear HN HRUN hv4 hz4 hq4 hvf0

              go_wp2_with fail
              have hb : Bn w0 C g m (ucBs C g m pB lB cB eB tB ps l c ex 18 { f with stamps := S ++ [x] } ++ [(dB, [.vw r]), (sB, [.vw s2]), (vB, [.vw (x)])]) none _ := HB7.out
              refine ⟨⟨don ++ [x], s2, n, ?_, by omega, ?_, by simp; omega⟩, ?_⟩
              · rw [← List.append_assoc, ← HSS.out]; exact hb.take 8
              · rw [← HTV4.out]; cases tvecs 2 n s2 <;> simp
              · rw [hb.len (b := 7) (F := []) rfl, HCL.out]; omega

end Go.Proofs.Ytopcljikkdlffaa
