/- The reference's reader: parts within a reader. No statement of the seat is proved here. -/
import Derived.Test.YtopcljikkdlffaaRs
namespace Go.Proofs.Ytopcljikkdlffaa
open Go.RowKit

/-- What is left alone: every block that was there but those listed. -/
structure Fs (l : List Nat) (w w' : World) : Prop where
  os : w'.os = w.os
  tape : w'.tape = w.tape
  output : w'.output = w.output
  size : w.heap.size ≤ w'.heap.size
  keep : ∀ k, k < w.heap.size → k ∉ l → w'.heap[k]? = w.heap[k]?

theorem Fs.refl (l : List Nat) (w : World) : Fs l w w := ⟨rfl, rfl, rfl, Nat.le_refl _, fun _ _ _ => rfl⟩
theorem Fs.trans {l : List Nat} {a b d : World} (h : Fs l a b) (k : Fs l b d) : Fs l a d :=
  ⟨k.os.trans h.os, k.tape.trans h.tape, k.output.trans h.output, Nat.le_trans h.size k.size, fun i hi hm => (k.keep i (Nat.lt_of_lt_of_le hi h.size) hm).trans (h.keep i hi hm)⟩
theorem Fs.mono {l l' : List Nat} {a b : World} (h : Fs l a b) (hl : ∀ x ∈ l, x ∈ l') : Fs l' a b := ⟨h.os, h.tape, h.output, h.size, fun k hk hn => h.keep k hk fun hm => hn (hl k hm)⟩
theorem Fm.fs {m : Nat} {l : List Nat} {a b : World} (h : Fm m a b) (hl : m ∈ l) : Fs l a b := ⟨h.os, h.tape, h.output, h.size, fun k hk hn => h.keep k hk fun e => hn (e ▸ hl)⟩
theorem Fs.fresh {l : List Nat} {a b : World} {p : Nat} (h : Fs (p :: l) a b) (hp : a.heap.size ≤ p) : Fs l a b :=
  ⟨h.os, h.tape, h.output, h.size, fun k hk hn => h.keep k hk fun hm => by
    rcases List.mem_cons.1 hm with e | e
    · omega
    · exact hn e⟩

theorem RAt.fs {w w' : World} {c g : Nat} {C : Array Value} {st : Nat × List UInt8} {l : List Nat} (h : RAt w c C g st) (hf : Fs l w w') (hc : c ∉ l) : RAt w' c C g st := by
  obtain ⟨v, hh, hv⟩ := h
  exact ⟨v, (hf.keep c (lt_of_heap hh) hc).trans hh, hv⟩

/-- Nothing may be left. -/
def rend (st : Nat × List UInt8) : Nat × List UInt8 := if st.2 = [] then st else rfail 3 st

/-- A part is done. -/
def rdone (st p : Nat × List UInt8) : Nat × List UInt8 := if (rend p).1 = 0 then st else rfail (rend p).1 st

set_option maxRecDepth 100000 in
set_option maxHeartbeats 400000 in
theorem end_ok {c g : Nat} {C : Array Value} {st : Nat × List UInt8} (w : World) (hR : RAt w c C g st) :
    Calls Try.prog 54 #[.pointer (some ⟨c, 0, none⟩)] w fun e w' => e = .returned (.tuple #[]) ∧ RAt w' c C g (rend st) ∧ Fm c w w' := by
  have HR := Lib.hid hR
  obtain ⟨v, hh, hv⟩ := hR
  obtain ⟨code, bs⟩ := st
  obtain ⟨a, cap, rfl, _, _⟩ := hv.len
  simp only at hh hv
  have f0 : w.cell? ⟨c, 0, none⟩ = some (.slice a bs.length cap) := by rw [cell_of_heap hh]; rfl
  clear hh hv
  unfold rend
  by_cases h0 : bs = []
  · subst h0
    go_enter Try.func54, Try.ntmps54
    go_wp2_with fail
    go_end0
    exact ⟨rfl, HR.out, Fm.refl _ _⟩
  · have h1 : (bs.length : Int) > 0 := by have := List.length_pos_iff.2 h0; omega
    go_enter Try.func54, Try.ntmps54
    go_wp2_with fail
    refine (fail_ok 3 w HR.out).mono ?_
    rintro e w1 ⟨rfl, hr, hf⟩
    have HR1 := Lib.hid hr
    have HF1 := Lib.hid hf
    clear hr hf
    go_wp2_with fail
    go_end0
    exact ⟨rfl, HR1.out, HF1.out⟩

set_option maxRecDepth 100000 in
set_option maxHeartbeats 400000 in
theorem within_ok {c g : Nat} {C : Array Value} {st : Nat × List UInt8} {u : Value} {bx : List UInt8} (w : World) (hu : VN C g u bx) (hR : RAt w c C g st) :
    Calls Try.prog 55 #[.pointer (some ⟨c, 0, none⟩), u] w fun e w' => e = .returned (.pointer (some ⟨w.heap.size, 0, none⟩)) ∧ RAt w' w.heap.size C g (st.1, if st.1 = 0 then bx else []) ∧ Fs [] w w' := by
  obtain ⟨v, hh, hv⟩ := hR
  obtain ⟨code, bs⟩ := st
  simp only at hh hv
  have f1 : w.cell? ⟨c, 1, none⟩ = some (.int .i64 code) := by rw [cell_of_heap hh]; rfl
  have HU := Lib.hid hu
  obtain ⟨a, cap, rfl, _, _⟩ := hu.len
  have hfs : ∀ o : Obj, Fs [] w (w.alloc o) := fun o => ⟨rfl, rfl, rfl, by simp, fun k hk _ => Below.heap_alloc _ _ _ hk⟩
  clear hh hv hu
  by_cases h0 : code = 0
  · subst h0
    go_enter Try.func55, Try.ntmps55
    go_wp2_with fail
    go_ret
    exact ⟨rfl, ⟨_, heap_alloc_new _ _, by simpa using HU.out⟩, hfs _⟩
  · have h0' : ¬ ((code : Nat) : Int) = 0 := by omega
    go_enter Try.func55, Try.ntmps55
    go_wp2_with fail
    go_ret
    exact ⟨rfl, ⟨_, heap_alloc_new _ _, .inl ⟨rfl, by simp [h0]⟩⟩, hfs _⟩

set_option maxRecDepth 100000 in
set_option maxHeartbeats 400000 in
theorem done_ok {c p g : Nat} {C : Array Value} {st sp : Nat × List UInt8} (w : World) (hcp : c ≠ p) (hR : RAt w c C g st) (hP : RAt w p C g sp) :
    Calls Try.prog 57 #[.pointer (some ⟨c, 0, none⟩), .pointer (some ⟨p, 0, none⟩)] w fun e w' => e = .returned (.tuple #[]) ∧ RAt w' c C g (rdone st sp) ∧ Fs [c, p] w w' := by
  have HR := Lib.hid hR
  have HP := Lib.hid hP
  clear hR hP
  go_enter Try.func57, Try.ntmps57
  go_wp2_with fail
  refine (end_ok w HP.out).mono ?_
  rintro e w1 ⟨rfl, hp1, hf1⟩
  have hr1 := HR.out.fs (hf1.fs (l := [p]) (by simp)) (by simpa using hcp)
  obtain ⟨v, hh, _⟩ := id hp1
  obtain ⟨code, hcode⟩ : ∃ code, code = (rend sp).1 := ⟨_, rfl⟩
  rw [← hcode] at hh
  have f1 : w1.cell? ⟨p, 1, none⟩ = some (.int .i64 code) := by rw [cell_of_heap hh]; rfl
  have HR1 := Lib.hid hr1
  have HF1 := Lib.hid (hf1.fs (l := [c, p]) (by simp))
  have HC := Lib.hid hcode
  clear hp1 hf1 hr1 hh hcode
  by_cases h0 : code = 0
  · subst h0
    go_wp2_with fail
    go_end0
    exact ⟨rfl, by unfold rdone; rw [← HC.out, if_pos rfl]; exact HR1.out, HF1.out⟩
  · have h0' : ¬ ((code : Nat) : Int) = 0 := by omega
    go_wp2_with fail
    refine (fail_ok code w1 HR1.out).mono ?_
    rintro e w2 ⟨rfl, hr2, hf2⟩
    have HR2 := Lib.hid hr2
    have HF2 := Lib.hid (HF1.out.trans (hf2.fs (by simp)))
    clear hr2 hf2
    go_wp2_with fail
    go_end0
    exact ⟨rfl, by unfold rdone; rw [← HC.out, if_neg h0]; exact HR2.out, HF2.out⟩

/-- All that is left. -/
def rrest (st : Nat × List UInt8) : List UInt8 × (Nat × List UInt8) := if st.2 = [] then ([], rfail 1 st) else (st.2, (st.1, []))

set_option maxRecDepth 100000 in
set_option maxHeartbeats 400000 in
theorem rest_ok {c g : Nat} {C : Array Value} {st : Nat × List UInt8} (w : World) (hR : RAt w c C g st) :
    Calls Try.prog 83 #[.pointer (some ⟨c, 0, none⟩)] w fun e w' => ∃ u, e = .returned u ∧ VN C g u (rrest st).1 ∧ RAt w' c C g (rrest st).2 ∧ Fm c w w' := by
  have HR := Lib.hid hR
  obtain ⟨v, hh, hv⟩ := hR
  obtain ⟨code, bs⟩ := st
  obtain ⟨a, cap, rfl, _, _⟩ := hv.len
  simp only at hh hv
  have f0 : w.cell? ⟨c, 0, none⟩ = some (.slice a bs.length cap) := by rw [cell_of_heap hh]; rfl
  clear hh hv
  by_cases h0 : bs = []
  · subst h0
    have e : rrest (code, []) = ([], rfail 1 (code, [])) := rfl
    rw [e]
    go_enter Try.func83, Try.ntmps83
    go_wp2_with fail
    refine (fail_ok 1 w HR.out).mono ?_
    rintro e w1 ⟨rfl, hr, hf⟩
    obtain ⟨v1, hh1, hv1⟩ := id hr
    have hnil : v1 = .slice none 0 0 ∨ ∃ x cap1, v1 = .slice (some x) 0 cap1 := by
      rcases hv1 with ⟨rfl, _⟩ | ⟨off, cap1, rfl, _⟩
      · exact .inl rfl
      · exact .inr ⟨_, cap1, rfl⟩
    obtain ⟨a1, cap1, rfl⟩ : ∃ a1 cap1, v1 = .slice a1 0 cap1 := by
      rcases hnil with rfl | ⟨x, cap1, rfl⟩
      · exact ⟨none, 0, rfl⟩
      · exact ⟨_, _, rfl⟩
    have f3 : w1.cell? ⟨c, 0, none⟩ = some (.slice a1 0 cap1) := by rw [cell_of_heap hh1]; rfl
    have HR1 := Lib.hid hr
    have HF1 := Lib.hid hf
    clear hr hf hh1 hv1 hnil
    go_wp2_with fail
    refine (take_yes 0 w1 (Nat.zero_le _) HR1.out).mono ?_
    rintro e w2 ⟨u, rfl, hu, hr2, hf2⟩
    have HU := Lib.hid hu
    have HR2 := Lib.hid hr2
    have HF2 := Lib.hid (HF1.out.trans hf2)
    clear hu hr2 hf2
    go_wp2_with fail
    go_ret
    exact ⟨_, rfl, HU.out, HR2.out, HF2.out⟩
  · have hl : ¬ ((bs.length : Nat) : Int) = 0 := by have := List.length_pos_iff.2 h0; omega
    have e : rrest (code, bs) = (bs, (code, [])) := by unfold rrest; rw [if_neg h0]
    rw [e]
    go_enter Try.func83, Try.ntmps83
    go_wp2_with fail
    refine (take_yes bs.length w (Nat.le_refl _) HR.out).mono ?_
    rintro e w2 ⟨u, rfl, hu, hr2, hf2⟩
    rw [List.take_length] at hu
    rw [List.drop_length] at hr2
    have HU := Lib.hid hu
    have HR2 := Lib.hid hr2
    have HF2 := Lib.hid hf2
    clear hu hr2 hf2
    go_wp2_with fail
    go_ret
    exact ⟨_, rfl, HU.out, HR2.out, HF2.out⟩

/-- A part: what was found, and its bytes. -/
def rin (st : Nat × List UInt8) (bx : List UInt8) : Nat × List UInt8 := (st.1, if st.1 = 0 then bx else [])

/-- A list of one protocol name. -/
def rprot (st : Nat × List UInt8) : List UInt8 × (Nat × List UInt8) :=
  ((rvec 1 1 255 (rin (rvec 2 2 65535 st).2 (rvec 2 2 65535 st).1)).1,
    rdone (rvec 2 2 65535 st).2 (if (rvec 1 1 255 (rin (rvec 2 2 65535 st).2 (rvec 2 2 65535 st).1)).2.1 = 0 ∧ (rvec 1 1 255 (rin (rvec 2 2 65535 st).2 (rvec 2 2 65535 st).1)).2.2 ≠ []
      then rfail 1 (rvec 1 1 255 (rin (rvec 2 2 65535 st).2 (rvec 2 2 65535 st).1)).2 else (rvec 1 1 255 (rin (rvec 2 2 65535 st).2 (rvec 2 2 65535 st).1)).2))

set_option maxRecDepth 100000 in
set_option maxHeartbeats 1000000 in
theorem prot_ok {c g : Nat} {C : Array Value} {T : TypeId} {fr : Nat × Nat} {st : Nat × List UInt8} (w : World) (hg : w.heap[g]? = some (.cells C T fr)) (hgc : g ≠ c) (hR : RAt w c C g st) :
    Calls Try.prog 81 #[.pointer (some ⟨c, 0, none⟩)] w fun e w' => e = .returned (.string ⟨(rprot st).1.toArray⟩) ∧ RAt w' c C g (rprot st).2 ∧ Fs [c] w w' := by
  have HR := Lib.hid hR
  have HG := Lib.hid hg
  have hcl : c < w.heap.size := by obtain ⟨v, hh, _⟩ := hR; exact lt_of_heap hh
  have hgl := lt_of_heap hg
  clear hR hg
  go_enter Try.func81, Try.ntmps81
  go_wp2_with fail
  refine (vec_ok 2 2 65535 w (by omega) HG.out hgc HR.out).mono ?_
  rintro e w1 ⟨u1, rfl, hv1, hr1, hf1⟩
  have HV1 := Lib.hid hv1
  obtain ⟨a1, c1, rfl, _, _⟩ := hv1.len
  have HR1 := Lib.hid hr1
  have HF1 := Lib.hid (hf1.fs (l := [c]) (by simp))
  have hs1 := hf1.size
  clear hv1 hr1 hf1
  go_wp2_with fail
  refine (within_ok w1 HV1.out HR1.out).mono ?_
  rintro e w2 ⟨rfl, hp2, hf2⟩
  have HP2 : Hid (RAt w2 w1.heap.size C g (rin (rvec 2 2 65535 st).2 (rvec 2 2 65535 st).1)) := hp2
  have hr2 := HR1.out.fs hf2 (by simp)
  have HR2 := Lib.hid hr2
  have HF2 := Lib.hid (HF1.out.trans (hf2.mono (l' := [c]) (by simp)))
  have HG2 := Lib.hid ((HF2.out.keep g hgl (by simpa using hgc)).trans HG.out)
  have hs2 := hf2.size
  clear hp2 hf2 hr2
  go_wp2_with fail
  refine (vec_ok 1 1 255 w2 (by omega) HG2.out (by omega) HP2.out).mono ?_
  rintro e w3 ⟨u3, rfl, hv3, hp3, hf3⟩
  obtain ⟨Y, hY⟩ : ∃ Y, Y = rvec 1 1 255 (rin (rvec 2 2 65535 st).2 (rvec 2 2 65535 st).1) := ⟨_, rfl⟩
  rw [← hY] at hv3 hp3
  have hprot : rprot st = (Y.1, rdone (rvec 2 2 65535 st).2 (if Y.2.1 = 0 ∧ Y.2.2 ≠ [] then rfail 1 Y.2 else Y.2)) := by unfold rprot; rw [← hY]
  have HPR := Lib.hid hprot
  clear hprot hY
  obtain ⟨nm, code, bs⟩ := Y
  simp only at hv3 hp3
  obtain ⟨a3, c3, rfl, _, _⟩ := hv3.len
  obtain ⟨v3, hh3, hx3⟩ := id hp3
  obtain ⟨a4, c4, rfl, _, _⟩ := hx3.len
  simp only at hh3
  have f0 : w3.cell? ⟨w1.heap.size, 0, none⟩ = some (.slice a4 bs.length c4) := by rw [cell_of_heap hh3]; rfl
  have f1 : w3.cell? ⟨w1.heap.size, 1, none⟩ = some (.int .i64 code) := by rw [cell_of_heap hh3]; rfl
  have HV3 := Lib.hid hv3
  have HP3 := Lib.hid hp3
  have hcp : c ≠ w1.heap.size := by omega
  have HR3 := Lib.hid (HR2.out.fs (hf3.fs (l := [w1.heap.size]) (by simp)) (by simpa using hcp))
  have HF3 := Lib.hid ((HF2.out.mono (l' := [w1.heap.size, c]) (by simp)).trans (hf3.fs (by simp)))
  clear hv3 hp3 hh3 hx3 hf3
  have hend : ∀ (w4 : World) (sp : Nat × List UInt8), RAt w4 c C g (rvec 2 2 65535 st).2 → RAt w4 w1.heap.size C g sp → Fs [w1.heap.size, c] w w4 → sp = (if code = 0 ∧ bs ≠ [] then rfail 1 (code, bs) else (code, bs)) →
      Calls Try.prog 57 #[.pointer (some ⟨c, 0, none⟩), .pointer (some ⟨w1.heap.size, 0, none⟩)] w4 fun e w5 => e = .returned (.tuple #[]) ∧ RAt w5 c C g (rprot st).2 ∧ Fs [c] w w5 ∧ (convert 22 9 (.slice a3 nm.length c3)).run Try.prog w5 = .ok (.string ⟨nm.toArray⟩) w5 := by
    intro w4 sp hr hp hf hsp
    refine (done_ok w4 hcp hr hp).mono ?_
    rintro e w5 ⟨rfl, hr5, hf5⟩
    have hf6 : Fs [c] w w5 := ((hf.trans (hf5.mono (by simp))).fresh hs1)
    refine ⟨rfl, by rw [HPR.out, ← hsp]; exact hr5, hf6, ?_⟩
    exact conv_ok (vn_src HV3.out ((hf6.keep g hgl (by simpa using hgc)).trans HG.out)).src
  have HEND := Lib.hid hend
  clear hend
  by_cases h0 : code = 0
  · subst h0
    by_cases h1 : bs = []
    · subst h1
      go_wp2_with fail
      refine (HEND.out w3 _ HR3.out HP3.out HF3.out (by simp)).mono ?_
      rintro e w5 ⟨rfl, hr5, hf5, hcv⟩
      have HR5 := Lib.hid hr5
      have HF5 := Lib.hid hf5
      clear hr5 hf5
      go_wp2_with fail
      go_ret
      exact ⟨by rw [HPR.out]; rfl, HR5.out, HF5.out⟩
    · have hl : ((bs.length : Nat) : Int) > 0 := by have := List.length_pos_iff.2 h1; omega
      go_wp2_with fail
      refine (fail_ok 1 w3 HP3.out).mono ?_
      rintro e w4 ⟨rfl, hp4, hf4⟩
      have HP4 := Lib.hid hp4
      have HR4 := Lib.hid (HR3.out.fs (hf4.fs (l := [w1.heap.size]) (by simp)) (by simpa using hcp))
      have HF4 := Lib.hid (HF3.out.trans (hf4.fs (by simp)))
      clear hp4 hf4
      go_wp2_with fail
      refine (HEND.out w4 _ HR4.out HP4.out HF4.out (by rw [if_pos ⟨trivial, h1⟩])).mono ?_
      rintro e w5 ⟨rfl, hr5, hf5, hcv⟩
      have HR5 := Lib.hid hr5
      have HF5 := Lib.hid hf5
      clear hr5 hf5
      go_wp2_with fail
      go_ret
      exact ⟨by rw [HPR.out]; rfl, HR5.out, HF5.out⟩
  · have h0' : ¬ ((code : Nat) : Int) = 0 := by omega
    go_wp2_with fail
    refine (HEND.out w3 _ HR3.out HP3.out HF3.out (by rw [if_neg (fun h => h0 h.1)])).mono ?_
    rintro e w5 ⟨rfl, hr5, hf5, hcv⟩
    have HR5 := Lib.hid hr5
    have HF5 := Lib.hid hf5
    clear hr5 hf5
    go_wp2_with fail
    go_ret
    exact ⟨by rw [HPR.out]; rfl, HR5.out, HF5.out⟩

end Go.Proofs.Ytopcljikkdlffaa
