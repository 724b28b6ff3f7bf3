/- The reference's reader: one extension of a ServerHello. General words on structs that are handed about by value. No statement of the seat is proved here. -/
import Derived.Test.YtopcljikkdlffaaX12
import Derived.Test.YtopcljikkdlffaaX01
import Derived.Laws.Rows
import Derived.Laws.Tables
import Derived.Laws.ResultCell
import Derived.Deep.WholeRow
namespace Go.Proofs.Ytopcljikkdlffaa
open Go.RowKit

/-- The reference's ServerHello in block m: its cells are there; those of the key share are a number and a slice. -/
def MAt (w : World) (m : Nat) : Prop := ∃ D : Array Value, w.heap[m]? = some (.cells D 37 (0, 0)) ∧ D.size = 22 ∧ (∃ n : Nat, D[13]? = some (.int .u16 n)) ∧ (∃ a l cap, D[14]? = some (.slice a l cap)) ∧ D.all (·.oneCell') = true

theorem one_set {D : Array Value} {k : Nat} {u : Value} (h : D.all (·.oneCell') = true) (hu : u.oneCell' = true) : (D.setIfInBounds k u).all (·.oneCell') = true := by
  rw [Array.all_eq_true_iff_forall_mem] at h ⊢
  intro x hx
  rcases Array.mem_or_eq_of_mem_setIfInBounds hx with h1 | h1
  · exact h x h1
  · rw [h1]; exact hu

theorem MAt.cell {w : World} {m : Nat} (h : MAt w m) (k : Nat) (hk : k < 22) : ∃ u, w.cell? ⟨m, k, none⟩ = some u := by
  obtain ⟨D, hh, hs, _⟩ := h
  exact ⟨D[k], by rw [cell_of_heap hh]; exact Array.getElem?_eq_getElem _⟩
theorem MAt.cell13 {w : World} {m : Nat} (h : MAt w m) : ∃ n : Nat, w.cell? ⟨m, 13, none⟩ = some (.int .u16 n) := by
  obtain ⟨D, hh, hs, ⟨n, hn⟩, _⟩ := h
  exact ⟨n, by rw [cell_of_heap hh]; exact hn⟩
theorem MAt.cell14 {w : World} {m : Nat} (h : MAt w m) : ∃ a l cap, w.cell? ⟨m, 14, none⟩ = some (.slice a l cap) := by
  obtain ⟨D, hh, hs, _, ⟨a, l, cap, hn⟩, _⟩ := h
  exact ⟨a, l, cap, by rw [cell_of_heap hh]; exact hn⟩
theorem MAt.frozen {w : World} {m : Nat} (h : MAt w m) (k : Nat) : w.frozen? ⟨m, k, none⟩ = false := by
  obtain ⟨D, hh, _⟩ := h
  exact frozen_of_heap hh
theorem MAt.set {w : World} {m : Nat} (h : MAt w m) (k : Nat) (u : Value) (h13 : k ≠ 13) (h14 : k ≠ 14) (hu : u.oneCell' = true := by rfl) : MAt (w.setCell ⟨m, k, none⟩ u) m := by
  obtain ⟨D, hh, hs, ⟨n, hn⟩, ⟨a, l, cap, hc⟩, ho⟩ := h
  exact ⟨_, heap_set_same hh, by simpa using hs, ⟨n, by rw [Array.getElem?_setIfInBounds_ne h13]; exact hn⟩, ⟨a, l, cap, by rw [Array.getElem?_setIfInBounds_ne h14]; exact hc⟩, one_set ho hu⟩
theorem MAt.set13 {w : World} {m : Nat} (h : MAt w m) (r : Nat) : MAt (w.setCell ⟨m, 13, none⟩ (.int .u16 r)) m := by
  obtain ⟨D, hh, hs, ⟨n, hn⟩, ⟨a, l, cap, hc⟩, ho⟩ := h
  exact ⟨_, heap_set_same hh, by simpa using hs, ⟨r, by rw [Array.getElem?_setIfInBounds_self_of_lt (by omega)]⟩, ⟨a, l, cap, by rw [Array.getElem?_setIfInBounds_ne (by omega)]; exact hc⟩, one_set ho rfl⟩
theorem MAt.set14 {w : World} {m : Nat} (h : MAt w m) (a : Option Addr) (l cap : Nat) : MAt (w.setCell ⟨m, 14, none⟩ (.slice a l cap)) m := by
  obtain ⟨D, hh, hs, ⟨n, hn⟩, _, ho⟩ := h
  exact ⟨_, heap_set_same hh, by simpa using hs, ⟨n, by rw [Array.getElem?_setIfInBounds_ne (by omega)]; exact hn⟩, ⟨a, l, cap, by rw [Array.getElem?_setIfInBounds_self_of_lt (by omega)]⟩, one_set ho rfl⟩
theorem MAt.fs {w w' : World} {m : Nat} {l : List Nat} (h : MAt w m) (hf : Fs l w w') (hm : m ∉ l) : MAt w' m := by
  obtain ⟨D, hh, r⟩ := h
  exact ⟨D, (hf.keep m (lt_of_heap hh) hm).trans hh, r⟩
theorem MAt.lt {w : World} {m : Nat} (h : MAt w m) : m < w.heap.size := by
  obtain ⟨D, hh, _⟩ := h
  exact lt_of_heap hh
theorem RAt.setOther {w : World} {c g : Nat} {C : Array Value} {st : Nat × List UInt8} (h : RAt w c C g st) (m o : Nat) (u : Value) (hm : c ≠ m) : RAt (w.setCell ⟨m, o, none⟩ u) c C g st := by
  obtain ⟨v, hh, hv⟩ := h
  exact ⟨v, (Below.heap_setCell _ _ _ _ hm).trans hh, hv⟩
theorem Fs.setCell {l : List Nat} {a w : World} (h : Fs l a w) (m o : Nat) (u : Value) (hm : m ∈ l) : Fs l a (w.setCell ⟨m, o, none⟩ u) :=
  h.trans ⟨rfl, rfl, rfl, by simp [World.setCell], fun k _ hn => Below.heap_setCell _ _ _ _ (fun e => hn (e ▸ hm))⟩
theorem RAt.lt {w : World} {c g : Nat} {C : Array Value} {st : Nat × List UInt8} (h : RAt w c C g st) : c < w.heap.size := by
  obtain ⟨v, hh, _⟩ := h
  exact lt_of_heap hh

/-- What an extension leaves of a reader; b: whether a key share says what is not spoken of. -/
def rsext (kind : Nat) (b : Bool) (st : Nat × List UInt8) : Nat × List UInt8 :=
  if kind = 5 ∨ kind = 35 ∨ kind = 23 ∨ kind = 0 then st
  else if kind = 65281 then (rvec 1 0 255 st).2
  else if kind = 16 then (rprot st).2
  else if kind = 18 then rdone (rvec 2 1 65535 st).2 (rvecs 2 1 (rvec 2 1 65535 st).1.length (rin (rvec 2 1 65535 st).2 (rvec 2 1 65535 st).1)).2
  else if kind = 43 ∨ kind = 41 then (rnum 2 st).2
  else if kind = 51 then
    if b then rfail 1 (if (rnum 2 st).2.1 = 0 ∧ (rnum 2 st).2.2 = [] then (rnum 2 st).2 else (rvec 2 0 65535 (rnum 2 st).2).2)
    else (if (rnum 2 st).2.1 = 0 ∧ (rnum 2 st).2.2 = [] then (rnum 2 st).2 else (rvec 2 0 65535 (rnum 2 st).2).2)
  else if kind = 44 then (rvec 2 1 65535 st).2
  else if kind = 11 then (rvec 1 1 255 st).2
  else if kind = 65037 then (rrest st).2
  else (st.1, [])

/-- What is left behind one extension. -/
def SextPost (w : World) (x m : Nat) (C : Array Value) (g : Nat) (kind : Nat) (st : Nat × List UInt8) (e : Ending) (w' : World) : Prop :=
  e = .returned (.tuple #[]) ∧ ∃ b, RAt w' x C g (rsext kind b st) ∧ MAt w' m ∧ Fs [x, m] w w'

set_option maxRecDepth 100000 in
set_option maxHeartbeats 1000000 in
theorem sext_5 {x m g : Nat} {C : Array Value} {T : TypeId} {fr : Nat × Nat} {st : Nat × List UInt8} (w : World) (hg : w.heap[g]? = some (.cells C T fr)) (hgx : g ≠ x) (hgm : g ≠ m) (hxm : x ≠ m) (hR : RAt w x C g st) (hM : MAt w m) :
    Calls Try.prog 56 #[.pointer (some ⟨x, 0, none⟩), .int .u16 5, .pointer (some ⟨m, 0, none⟩)] w (SextPost w x m C g 5 st) := by
  have HR := Lib.hid hR
  have HM := Lib.hid hM
  have HG := Lib.hid hg
  obtain ⟨u, hc⟩ := hM.cell 5 (by omega)
  have hfz := hM.frozen 5
  clear hR hM hg
  go_enter Try.func56, Try.ntmps56
  go_wp2_with fail
  go_end0
  exact ⟨rfl, false, HR.out.setOther _ _ _ hxm, HM.out.set _ _ (by omega) (by omega), (Fs.refl _ _).setCell _ _ _ (by simp)⟩

set_option maxRecDepth 100000 in
set_option maxHeartbeats 1000000 in
theorem sext_35 {x m g : Nat} {C : Array Value} {T : TypeId} {fr : Nat × Nat} {st : Nat × List UInt8} (w : World) (hg : w.heap[g]? = some (.cells C T fr)) (hgx : g ≠ x) (hgm : g ≠ m) (hxm : x ≠ m) (hR : RAt w x C g st) (hM : MAt w m) :
    Calls Try.prog 56 #[.pointer (some ⟨x, 0, none⟩), .int .u16 35, .pointer (some ⟨m, 0, none⟩)] w (SextPost w x m C g 35 st) := by
  have HR := Lib.hid hR
  have HM := Lib.hid hM
  have HG := Lib.hid hg
  obtain ⟨u, hc⟩ := hM.cell 6 (by omega)
  have hfz := hM.frozen 6
  clear hR hM hg
  go_enter Try.func56, Try.ntmps56
  go_wp2_with fail
  go_end0
  exact ⟨rfl, false, HR.out.setOther _ _ _ hxm, HM.out.set _ _ (by omega) (by omega), (Fs.refl _ _).setCell _ _ _ (by simp)⟩

set_option maxRecDepth 100000 in
set_option maxHeartbeats 1000000 in
theorem sext_23 {x m g : Nat} {C : Array Value} {T : TypeId} {fr : Nat × Nat} {st : Nat × List UInt8} (w : World) (hg : w.heap[g]? = some (.cells C T fr)) (hgx : g ≠ x) (hgm : g ≠ m) (hxm : x ≠ m) (hR : RAt w x C g st) (hM : MAt w m) :
    Calls Try.prog 56 #[.pointer (some ⟨x, 0, none⟩), .int .u16 23, .pointer (some ⟨m, 0, none⟩)] w (SextPost w x m C g 23 st) := by
  have HR := Lib.hid hR
  have HM := Lib.hid hM
  have HG := Lib.hid hg
  obtain ⟨u, hc⟩ := hM.cell 9 (by omega)
  have hfz := hM.frozen 9
  clear hR hM hg
  go_enter Try.func56, Try.ntmps56
  go_wp2_with fail
  go_end0
  exact ⟨rfl, false, HR.out.setOther _ _ _ hxm, HM.out.set _ _ (by omega) (by omega), (Fs.refl _ _).setCell _ _ _ (by simp)⟩

set_option maxRecDepth 100000 in
set_option maxHeartbeats 1000000 in
theorem sext_0 {x m g : Nat} {C : Array Value} {T : TypeId} {fr : Nat × Nat} {st : Nat × List UInt8} (w : World) (hg : w.heap[g]? = some (.cells C T fr)) (hgx : g ≠ x) (hgm : g ≠ m) (hxm : x ≠ m) (hR : RAt w x C g st) (hM : MAt w m) :
    Calls Try.prog 56 #[.pointer (some ⟨x, 0, none⟩), .int .u16 0, .pointer (some ⟨m, 0, none⟩)] w (SextPost w x m C g 0 st) := by
  have HR := Lib.hid hR
  have HM := Lib.hid hM
  have HG := Lib.hid hg
  obtain ⟨u, hc⟩ := hM.cell 19 (by omega)
  have hfz := hM.frozen 19
  clear hR hM hg
  go_enter Try.func56, Try.ntmps56
  go_wp2_with fail
  go_end0
  exact ⟨rfl, false, HR.out.setOther _ _ _ hxm, HM.out.set _ _ (by omega) (by omega), (Fs.refl _ _).setCell _ _ _ (by simp)⟩

set_option maxRecDepth 100000 in
set_option maxHeartbeats 1000000 in
theorem sext_65281 {x m g : Nat} {C : Array Value} {T : TypeId} {fr : Nat × Nat} {st : Nat × List UInt8} (w : World) (hg : w.heap[g]? = some (.cells C T fr)) (hgx : g ≠ x) (hgm : g ≠ m) (hxm : x ≠ m) (hR : RAt w x C g st) (hM : MAt w m) :
    Calls Try.prog 56 #[.pointer (some ⟨x, 0, none⟩), .int .u16 65281, .pointer (some ⟨m, 0, none⟩)] w (SextPost w x m C g 65281 st) := by
  have HR := Lib.hid hR
  have HM := Lib.hid hM
  have HG := Lib.hid hg
  clear hR hM hg
  go_enter Try.func56, Try.ntmps56
  go_wp2_with fail
  refine (vec_ok 1 0 255 w (by omega) HG.out hgx HR.out).mono ?_
  rintro e w1 ⟨u, rfl, hv1, hr1, hf1⟩
  obtain ⟨av, cv, rfl, _, _⟩ := hv1.len
  have HR1 := Lib.hid hr1
  have hf2 : Fs [x] w w1 := hf1.fs (by simp)
  have hm1 := HM.out.fs hf2 (by simpa using fun h => hxm h.symm)
  obtain ⟨u7, hc7⟩ := hm1.cell 7 (by omega)
  have hfz7 := hm1.frozen 7
  obtain ⟨u8, hc8⟩ := hm1.cell 8 (by omega)
  have hfz8 := hm1.frozen 8
  have HM1 := Lib.hid hm1
  have HF2 := Lib.hid (hf2.mono (l' := [x, m]) (by simp))
  clear hr1 hf1 hf2 hm1
  go_wp2_with fail
  go_end0
  exact ⟨rfl, false, ((HR1.out).setOther _ _ _ hxm).setOther _ _ _ hxm, ((HM1.out).set _ _ (by omega) (by omega)).set _ _ (by omega) (by omega), ((HF2.out).setCell _ _ _ (by simp)).setCell _ _ _ (by simp)⟩

set_option maxRecDepth 100000 in
set_option maxHeartbeats 1000000 in
theorem sext_44 {x m g : Nat} {C : Array Value} {T : TypeId} {fr : Nat × Nat} {st : Nat × List UInt8} (w : World) (hg : w.heap[g]? = some (.cells C T fr)) (hgx : g ≠ x) (hgm : g ≠ m) (hxm : x ≠ m) (hR : RAt w x C g st) (hM : MAt w m) :
    Calls Try.prog 56 #[.pointer (some ⟨x, 0, none⟩), .int .u16 44, .pointer (some ⟨m, 0, none⟩)] w (SextPost w x m C g 44 st) := by
  have HR := Lib.hid hR
  have HM := Lib.hid hM
  have HG := Lib.hid hg
  clear hR hM hg
  go_enter Try.func56, Try.ntmps56
  go_wp2_with fail
  refine (vec_ok 2 1 65535 w (by omega) HG.out hgx HR.out).mono ?_
  rintro e w1 ⟨u, rfl, hv1, hr1, hf1⟩
  obtain ⟨av, cv, rfl, _, _⟩ := hv1.len
  have HR1 := Lib.hid hr1
  have hf2 : Fs [x] w w1 := hf1.fs (by simp)
  have hm1 := HM.out.fs hf2 (by simpa using fun h => hxm h.symm)
  obtain ⟨u20, hc20⟩ := hm1.cell 20 (by omega)
  have hfz20 := hm1.frozen 20
  have HM1 := Lib.hid hm1
  have HF2 := Lib.hid (hf2.mono (l' := [x, m]) (by simp))
  clear hr1 hf1 hf2 hm1
  go_wp2_with fail
  go_end0
  exact ⟨rfl, false, (HR1.out).setOther _ _ _ hxm, (HM1.out).set _ _ (by omega) (by omega), (HF2.out).setCell _ _ _ (by simp)⟩

set_option maxRecDepth 100000 in
set_option maxHeartbeats 1000000 in
theorem sext_11 {x m g : Nat} {C : Array Value} {T : TypeId} {fr : Nat × Nat} {st : Nat × List UInt8} (w : World) (hg : w.heap[g]? = some (.cells C T fr)) (hgx : g ≠ x) (hgm : g ≠ m) (hxm : x ≠ m) (hR : RAt w x C g st) (hM : MAt w m) :
    Calls Try.prog 56 #[.pointer (some ⟨x, 0, none⟩), .int .u16 11, .pointer (some ⟨m, 0, none⟩)] w (SextPost w x m C g 11 st) := by
  have HR := Lib.hid hR
  have HM := Lib.hid hM
  have HG := Lib.hid hg
  clear hR hM hg
  go_enter Try.func56, Try.ntmps56
  go_wp2_with fail
  refine (vec_ok 1 1 255 w (by omega) HG.out hgx HR.out).mono ?_
  rintro e w1 ⟨u, rfl, hv1, hr1, hf1⟩
  obtain ⟨av, cv, rfl, _, _⟩ := hv1.len
  have HR1 := Lib.hid hr1
  have hf2 : Fs [x] w w1 := hf1.fs (by simp)
  have hm1 := HM.out.fs hf2 (by simpa using fun h => hxm h.symm)
  obtain ⟨u17, hc17⟩ := hm1.cell 17 (by omega)
  have hfz17 := hm1.frozen 17
  have HM1 := Lib.hid hm1
  have HF2 := Lib.hid (hf2.mono (l' := [x, m]) (by simp))
  clear hr1 hf1 hf2 hm1
  go_wp2_with fail
  go_end0
  exact ⟨rfl, false, (HR1.out).setOther _ _ _ hxm, (HM1.out).set _ _ (by omega) (by omega), (HF2.out).setCell _ _ _ (by simp)⟩

set_option maxRecDepth 100000 in
set_option maxHeartbeats 1000000 in
theorem sext_16 {x m g : Nat} {C : Array Value} {T : TypeId} {fr : Nat × Nat} {st : Nat × List UInt8} (w : World) (hg : w.heap[g]? = some (.cells C T fr)) (hgx : g ≠ x) (hgm : g ≠ m) (hxm : x ≠ m) (hR : RAt w x C g st) (hM : MAt w m) :
    Calls Try.prog 56 #[.pointer (some ⟨x, 0, none⟩), .int .u16 16, .pointer (some ⟨m, 0, none⟩)] w (SextPost w x m C g 16 st) := by
  have HR := Lib.hid hR
  have HM := Lib.hid hM
  have HG := Lib.hid hg
  clear hR hM hg
  go_enter Try.func56, Try.ntmps56
  go_wp2_with fail
  refine (prot_ok w HG.out hgx HR.out).mono ?_
  rintro e w1 ⟨rfl, hr1, hf1⟩
  have HR1 := Lib.hid hr1
  have hf2 : Fs [x] w w1 := hf1
  have hm1 := HM.out.fs hf2 (by simpa using fun h => hxm h.symm)
  obtain ⟨u10, hc10⟩ := hm1.cell 10 (by omega)
  have hfz10 := hm1.frozen 10
  have HM1 := Lib.hid hm1
  have HF2 := Lib.hid (hf2.mono (l' := [x, m]) (by simp))
  clear hr1 hf1 hf2 hm1
  go_wp2_with fail
  go_end0
  exact ⟨rfl, false, (HR1.out).setOther _ _ _ hxm, (HM1.out).set _ _ (by omega) (by omega), (HF2.out).setCell _ _ _ (by simp)⟩

set_option maxRecDepth 100000 in
set_option maxHeartbeats 1000000 in
theorem sext_65037 {x m g : Nat} {C : Array Value} {T : TypeId} {fr : Nat × Nat} {st : Nat × List UInt8} (w : World) (hg : w.heap[g]? = some (.cells C T fr)) (hgx : g ≠ x) (hgm : g ≠ m) (hxm : x ≠ m) (hR : RAt w x C g st) (hM : MAt w m) :
    Calls Try.prog 56 #[.pointer (some ⟨x, 0, none⟩), .int .u16 65037, .pointer (some ⟨m, 0, none⟩)] w (SextPost w x m C g 65037 st) := by
  have HR := Lib.hid hR
  have HM := Lib.hid hM
  have HG := Lib.hid hg
  clear hR hM hg
  go_enter Try.func56, Try.ntmps56
  go_wp2_with fail
  refine (rest_ok w HR.out).mono ?_
  rintro e w1 ⟨u, rfl, hv1, hr1, hf1⟩
  obtain ⟨av, cv, rfl, _, _⟩ := hv1.len
  have HR1 := Lib.hid hr1
  have hf2 : Fs [x] w w1 := hf1.fs (by simp)
  have hm1 := HM.out.fs hf2 (by simpa using fun h => hxm h.symm)
  obtain ⟨u18, hc18⟩ := hm1.cell 18 (by omega)
  have hfz18 := hm1.frozen 18
  have HM1 := Lib.hid hm1
  have HF2 := Lib.hid (hf2.mono (l' := [x, m]) (by simp))
  clear hr1 hf1 hf2 hm1
  go_wp2_with fail
  go_end0
  exact ⟨rfl, false, (HR1.out).setOther _ _ _ hxm, (HM1.out).set _ _ (by omega) (by omega), (HF2.out).setCell _ _ _ (by simp)⟩

set_option maxRecDepth 100000 in
set_option maxHeartbeats 1000000 in
theorem sext_43 {x m g : Nat} {C : Array Value} {T : TypeId} {fr : Nat × Nat} {st : Nat × List UInt8} (w : World) (hg : w.heap[g]? = some (.cells C T fr)) (hgx : g ≠ x) (hgm : g ≠ m) (hxm : x ≠ m) (hR : RAt w x C g st) (hM : MAt w m) :
    Calls Try.prog 56 #[.pointer (some ⟨x, 0, none⟩), .int .u16 43, .pointer (some ⟨m, 0, none⟩)] w (SextPost w x m C g 43 st) := by
  have HR := Lib.hid hR
  have HM := Lib.hid hM
  have HG := Lib.hid hg
  clear hR hM hg
  go_enter Try.func56, Try.ntmps56
  go_wp2_with fail
  refine (num_ok 2 w (by omega) HG.out hgx HR.out).mono ?_
  rintro e w1 ⟨rfl, hr1, hf1⟩
  have HR1 := Lib.hid hr1
  have hf2 : Fs [x] w w1 := hf1.fs (by simp)
  have hm1 := HM.out.fs hf2 (by simpa using fun h => hxm h.symm)
  obtain ⟨u12, hc12⟩ := hm1.cell 12 (by omega)
  have hfz12 := hm1.frozen 12
  have HM1 := Lib.hid hm1
  have HF2 := Lib.hid (hf2.mono (l' := [x, m]) (by simp))
  clear hr1 hf1 hf2 hm1
  go_wp2_with fail
  go_end0
  exact ⟨rfl, false, (HR1.out).setOther _ _ _ hxm, (HM1.out).set _ _ (by omega) (by omega), (HF2.out).setCell _ _ _ (by simp)⟩

set_option maxRecDepth 100000 in
set_option maxHeartbeats 1000000 in
theorem sext_41 {x m g : Nat} {C : Array Value} {T : TypeId} {fr : Nat × Nat} {st : Nat × List UInt8} (w : World) (hg : w.heap[g]? = some (.cells C T fr)) (hgx : g ≠ x) (hgm : g ≠ m) (hxm : x ≠ m) (hR : RAt w x C g st) (hM : MAt w m) :
    Calls Try.prog 56 #[.pointer (some ⟨x, 0, none⟩), .int .u16 41, .pointer (some ⟨m, 0, none⟩)] w (SextPost w x m C g 41 st) := by
  have HR := Lib.hid hR
  have HM := Lib.hid hM
  have HG := Lib.hid hg
  clear hR hM hg
  go_enter Try.func56, Try.ntmps56
  go_wp2_with fail
  refine (num_ok 2 w (by omega) HG.out hgx HR.out).mono ?_
  rintro e w1 ⟨rfl, hr1, hf1⟩
  have HR1 := Lib.hid hr1
  have hf2 : Fs [x] w w1 := hf1.fs (by simp)
  have hm1 := HM.out.fs hf2 (by simpa using fun h => hxm h.symm)
  obtain ⟨u15, hc15⟩ := hm1.cell 15 (by omega)
  have hfz15 := hm1.frozen 15
  obtain ⟨u16, hc16⟩ := hm1.cell 16 (by omega)
  have hfz16 := hm1.frozen 16
  have HM1 := Lib.hid hm1
  have HF2 := Lib.hid (hf2.mono (l' := [x, m]) (by simp))
  clear hr1 hf1 hf2 hm1
  go_wp2_with fail
  go_end0
  exact ⟨rfl, false, ((HR1.out).setOther _ _ _ hxm).setOther _ _ _ hxm, ((HM1.out).set _ _ (by omega) (by omega)).set _ _ (by omega) (by omega), ((HF2.out).setCell _ _ _ (by simp)).setCell _ _ _ (by simp)⟩

set_option maxRecDepth 100000 in
set_option maxHeartbeats 1000000 in
theorem sext_18 {x m g : Nat} {C : Array Value} {T : TypeId} {fr : Nat × Nat} {st : Nat × List UInt8} (w : World) (hg : w.heap[g]? = some (.cells C T fr)) (hgx : g ≠ x) (hgm : g ≠ m) (hxm : x ≠ m) (hR : RAt w x C g st) (hM : MAt w m) :
    Calls Try.prog 56 #[.pointer (some ⟨x, 0, none⟩), .int .u16 18, .pointer (some ⟨m, 0, none⟩)] w (SextPost w x m C g 18 st) := by
  have HR := Lib.hid hR
  have HM := Lib.hid hM
  have HG := Lib.hid hg
  clear hR hM hg
  go_enter Try.func56, Try.ntmps56
  go_wp2_with fail
  refine (vec_ok 2 1 65535 w (by omega) HG.out hgx HR.out).mono ?_
  rintro e w1 ⟨u, rfl, hv1, hr1, hf1⟩
  have hl1 := rvec_len (k := 2) (low := 1) (high := 65535) (st := st)
  have HV1 := Lib.hid hv1
  obtain ⟨ad, cd, rfl, _, _⟩ := hv1.len
  have HR1 := Lib.hid hr1
  have HF1 := Lib.hid (hf1.fs (l := [x]) (by simp))
  have HG1 := Lib.hid ((hf1.keep g (lt_of_heap HG.out) hgx).trans HG.out)
  clear hv1 hr1 hf1
  go_wp2_with fail
  refine (rvectors_ok 2 1 w1 (by omega) HG1.out hgx (by omega) HV1.out HR1.out).mono ?_
  rintro e w2 ⟨o, rfl, ho, hr2, hf2⟩
  obtain ⟨us, hown, _⟩ := ho
  obtain ⟨ao, co, rfl⟩ := row_slice hown
  have HR2 := Lib.hid hr2
  have hf3 := HF1.out.trans hf2
  have hm2 := HM.out.fs hf3 (by simpa using fun h => hxm h.symm)
  obtain ⟨u11, hc11⟩ := hm2.cell 11 (by omega)
  have hfz11 := hm2.frozen 11
  have HM2 := Lib.hid hm2
  have HF3 := Lib.hid (hf3.mono (l' := [x, m]) (by simp))
  clear hr2 hf2 hf3 hm2 hown
  go_wp2_with fail
  go_end0
  exact ⟨rfl, false, HR2.out.setOther _ _ _ hxm, HM2.out.set _ _ (by omega) (by omega), HF3.out.setCell _ _ _ (by simp)⟩

set_option maxRecDepth 100000 in
set_option maxHeartbeats 1000000 in
theorem sext_51 {x m g : Nat} {C : Array Value} {T : TypeId} {fr : Nat × Nat} {st : Nat × List UInt8} (w : World) (hg : w.heap[g]? = some (.cells C T fr)) (hgx : g ≠ x) (hgm : g ≠ m) (hxm : x ≠ m) (hR : RAt w x C g st) (hM : MAt w m) :
    Calls Try.prog 56 #[.pointer (some ⟨x, 0, none⟩), .int .u16 51, .pointer (some ⟨m, 0, none⟩)] w (SextPost w x m C g 51 st) := by
  have HR := Lib.hid hR
  have HM := Lib.hid hM
  have HG := Lib.hid hg
  clear hR hM hg
  go_enter Try.func56, Try.ntmps56
  go_wp2_with fail
  refine (num_ok 2 w (by omega) HG.out hgx HR.out).mono ?_
  rintro e w1 ⟨rfl, hr1, hf1⟩
  obtain ⟨s1, hs1⟩ : ∃ s, s = rnum 2 st := ⟨_, rfl⟩
  have hty : s1.1 < 65536 := by
    rw [hs1]
    rcases rnum_lt (k := 2) (st := st) with h | h
    · exact h
    · rw [h]; omega
  have hres0 : ∀ b, rsext 51 b st = if b then rfail 1 (if s1.2.1 = 0 ∧ s1.2.2 = [] then s1.2 else (rvec 2 0 65535 s1.2).2) else (if s1.2.1 = 0 ∧ s1.2.2 = [] then s1.2 else (rvec 2 0 65535 s1.2).2) := by
    intro b; rw [hs1]; rfl
  rw [← hs1] at hr1 ⊢
  clear hs1
  obtain ⟨n, code, bs⟩ := s1
  simp only at hty hr1 hres0 ⊢
  obtain ⟨vr, hh, hv⟩ := id hr1
  obtain ⟨ar, capr, rfl, _, _⟩ := hv.len
  simp only at hh
  have f0 : w1.cell? ⟨x, 0, none⟩ = some (.slice ar bs.length capr) := by rw [cell_of_heap hh]; rfl
  have f1 : w1.cell? ⟨x, 1, none⟩ = some (.int .i64 code) := by rw [cell_of_heap hh]; rfl
  have hw16 : IntKind.u16.wrap ((n : Nat) : Int) = (n : Int) := by simp [IntKind.wrap, IntKind.signed, IntKind.bits]; omega
  have hm1 := HM.out.fs (hf1.fs (l := [x]) (by simp)) (by simpa using fun h => hxm h.symm)
  have HR1 := Lib.hid hr1
  have HM1 := Lib.hid hm1
  have HF1 := Lib.hid (hf1.fs (l := [x, m]) (by simp))
  have HG1 := Lib.hid ((hf1.keep g (lt_of_heap HG.out) hgx).trans HG.out)
  have HRES0 := Lib.hid hres0
  clear hr1 hf1 hh hv hres0
  by_cases hA : code = 0 ∧ bs = []
  · obtain ⟨rfl, rfl⟩ := hA
    have hres : Hid (∀ b, rsext 51 b st = if b then rfail 1 (0, []) else (0, [])) := by
      intro b; rw [HRES0.out b]; simp
    obtain ⟨u21, hc21⟩ := hm1.cell 21 (by omega)
    have hfz21 := hm1.frozen 21
    obtain ⟨n13, hc13⟩ := hm1.cell13
    obtain ⟨a14, l14, cap14, hc14⟩ := hm1.cell14
    clear hm1
    by_cases hz : ((n : Nat) : Int) = 0
    · have hz2 : n = 0 := by omega
      clear hz
      subst hz2
      go_wp2_with fail
      refine (fail_ok 1 _ (HR1.out.setOther _ _ _ hxm)).mono ?_
      rintro e w9 ⟨rfl, hr9, hf9⟩
      have HR9 := Lib.hid hr9
      have HM9 := Lib.hid ((HM1.out.set _ _ (by omega) (by omega)).fs (hf9.fs (l := [x]) (by simp)) (by simpa using fun h => hxm h.symm))
      have HF9 := Lib.hid ((HF1.out.setCell _ _ _ (by simp)).trans (hf9.fs (l := [x, m]) (by simp)))
      clear hr9 hf9
      go_wp2_with fail
      go_end0
      exact ⟨rfl, true, by rw [hres.out, if_pos rfl]; exact HR9.out, HM9.out, HF9.out⟩
    · by_cases h13 : ((n13 : Nat) : Int) = ((n : Nat) : Int)
      · have h132 : n13 = n := by omega
        clear h13
        subst h132
        by_cases hl : ((l14 : Nat) : Int) = 0
        · go_wp2_with fail
          refine (fail_ok 1 _ (HR1.out.setOther _ _ _ hxm)).mono ?_
          rintro e w9 ⟨rfl, hr9, hf9⟩
          have HR9 := Lib.hid hr9
          have HM9 := Lib.hid ((HM1.out.set _ _ (by omega) (by omega)).fs (hf9.fs (l := [x]) (by simp)) (by simpa using fun h => hxm h.symm))
          have HF9 := Lib.hid ((HF1.out.setCell _ _ _ (by simp)).trans (hf9.fs (l := [x, m]) (by simp)))
          clear hr9 hf9
          go_wp2_with fail
          go_end0
          exact ⟨rfl, true, by rw [hres.out, if_pos rfl]; exact HR9.out, HM9.out, HF9.out⟩
        · have hl2 : ¬ l14 = 0 := by omega
          have hl3 : ((l14 : Nat) : Int) ≠ 0 := by omega
          have hl4 : (((l14 : Nat) : Int) == 0) = false := by simpa using hl2
          go_wp2_with fail
          go_end0
          exact ⟨rfl, false, by rw [hres.out]; exact HR1.out.setOther _ _ _ hxm, HM1.out.set _ _ (by omega) (by omega), HF1.out.setCell _ _ _ (by simp)⟩
      · go_wp2_with fail
        go_end0
        exact ⟨rfl, false, by rw [hres.out]; exact HR1.out.setOther _ _ _ hxm, HM1.out.set _ _ (by omega) (by omega), HF1.out.setCell _ _ _ (by simp)⟩
  · have hres : Hid (∀ b, rsext 51 b st = if b then rfail 1 (rvec 2 0 65535 (code, bs)).2 else (rvec 2 0 65535 (code, bs)).2) := by
      intro b; rw [HRES0.out b]; simp only [if_neg hA]
    have htail : Hid (∀ w2 : World, Calls Try.prog 51 #[.pointer (some ⟨x, 0, none⟩), .int .i64 2, .int .i64 0, .int .i64 65535] w1 fun e w' => ∃ a cap l, e = .returned (.slice a l cap) ∧ RAt w' x C g (rvec 2 0 65535 (code, bs)).2 ∧ MAt w' m ∧ Fs [x, m] w w') := by
      intro _
      refine (vec_ok 2 0 65535 w1 (by omega) HG1.out hgx HR1.out).mono ?_
      rintro e w2 ⟨u, rfl, hu, hr2, hf2⟩
      obtain ⟨a, cap, rfl, _, _⟩ := hu.len
      exact ⟨a, cap, _, rfl, hr2, HM1.out.fs (hf2.fs (l := [x]) (by simp)) (by simpa using fun h => hxm h.symm), HF1.out.trans (hf2.fs (by simp))⟩
    clear hm1
    by_cases hc0 : code = 0
    · subst hc0
      have hb : ¬ ((bs.length : Nat) : Int) = 0 := by
        intro h
        exact hA ⟨rfl, List.length_eq_zero_iff.1 (by omega)⟩
      clear hA
      go_wp2_with fail
      refine (htail.out w1).mono ?_
      rintro e w2 ⟨a, cap, l, rfl, hr2, hm2, hf2⟩
      have HR2 := Lib.hid hr2
      have HM2 := Lib.hid hm2
      have HF2 := Lib.hid hf2
      obtain ⟨n13, hc13⟩ := hm2.cell13
      obtain ⟨a14, l14, cap14, hc14⟩ := hm2.cell14
      have hfz13 := hm2.frozen 13
      have hfz14 := hm2.frozen 14
      clear hr2 hm2 hf2
      by_cases hz : ((n : Nat) : Int) = 0
      · have hz2 : n = 0 := by omega
        clear hz
        subst hz2
        go_wp2_with fail
        refine (fail_ok 1 _ ((HR2.out.setOther _ _ _ hxm).setOther _ _ _ hxm)).mono ?_
        rintro e w9 ⟨rfl, hr9, hf9⟩
        have HR9 := Lib.hid hr9
        have HM9 := Lib.hid (((HM2.out.set13 _).set14 _ _ _).fs (hf9.fs (l := [x]) (by simp)) (by simpa using fun h => hxm h.symm))
        have HF9 := Lib.hid (((HF2.out.setCell _ _ _ (by simp)).setCell _ _ _ (by simp)).trans (hf9.fs (l := [x, m]) (by simp)))
        clear hr9 hf9
        go_wp2_with fail
        go_end0
        exact ⟨rfl, true, by rw [hres.out, if_pos rfl]; exact HR9.out, HM9.out, HF9.out⟩
      · by_cases hl : ((l : Nat) : Int) = 0
        · go_wp2_with fail
          refine (fail_ok 1 _ ((HR2.out.setOther _ _ _ hxm).setOther _ _ _ hxm)).mono ?_
          rintro e w9 ⟨rfl, hr9, hf9⟩
          have HR9 := Lib.hid hr9
          have HM9 := Lib.hid (((HM2.out.set13 _).set14 _ _ _).fs (hf9.fs (l := [x]) (by simp)) (by simpa using fun h => hxm h.symm))
          have HF9 := Lib.hid (((HF2.out.setCell _ _ _ (by simp)).setCell _ _ _ (by simp)).trans (hf9.fs (l := [x, m]) (by simp)))
          clear hr9 hf9
          go_wp2_with fail
          go_end0
          exact ⟨rfl, true, by rw [hres.out, if_pos rfl]; exact HR9.out, HM9.out, HF9.out⟩
        · have hl2 : ¬ l = 0 := by omega
          have hl3 : ((l : Nat) : Int) ≠ 0 := by omega
          have hl4 : (((l : Nat) : Int) == 0) = false := by simpa using hl2
          go_wp2_with fail
          go_end0
          exact ⟨rfl, false, by rw [hres.out]; exact (HR2.out.setOther _ _ _ hxm).setOther _ _ _ hxm, (HM2.out.set13 _).set14 _ _ _, (HF2.out.setCell _ _ _ (by simp)).setCell _ _ _ (by simp)⟩
    · have hc1 : ¬ ((code : Nat) : Int) = 0 := by omega
      go_wp2_with fail
      refine (htail.out w1).mono ?_
      rintro e w2 ⟨a, cap, l, rfl, hr2, hm2, hf2⟩
      have HR2 := Lib.hid hr2
      have HM2 := Lib.hid hm2
      have HF2 := Lib.hid hf2
      obtain ⟨n13, hc13⟩ := hm2.cell13
      obtain ⟨a14, l14, cap14, hc14⟩ := hm2.cell14
      have hfz13 := hm2.frozen 13
      have hfz14 := hm2.frozen 14
      clear hr2 hm2 hf2
      by_cases hz : ((n : Nat) : Int) = 0
      · have hz2 : n = 0 := by omega
        clear hz
        subst hz2
        go_wp2_with fail
        refine (fail_ok 1 _ ((HR2.out.setOther _ _ _ hxm).setOther _ _ _ hxm)).mono ?_
        rintro e w9 ⟨rfl, hr9, hf9⟩
        have HR9 := Lib.hid hr9
        have HM9 := Lib.hid (((HM2.out.set13 _).set14 _ _ _).fs (hf9.fs (l := [x]) (by simp)) (by simpa using fun h => hxm h.symm))
        have HF9 := Lib.hid (((HF2.out.setCell _ _ _ (by simp)).setCell _ _ _ (by simp)).trans (hf9.fs (l := [x, m]) (by simp)))
        clear hr9 hf9
        go_wp2_with fail
        go_end0
        exact ⟨rfl, true, by rw [hres.out, if_pos rfl]; exact HR9.out, HM9.out, HF9.out⟩
      · by_cases hl : ((l : Nat) : Int) = 0
        · go_wp2_with fail
          refine (fail_ok 1 _ ((HR2.out.setOther _ _ _ hxm).setOther _ _ _ hxm)).mono ?_
          rintro e w9 ⟨rfl, hr9, hf9⟩
          have HR9 := Lib.hid hr9
          have HM9 := Lib.hid (((HM2.out.set13 _).set14 _ _ _).fs (hf9.fs (l := [x]) (by simp)) (by simpa using fun h => hxm h.symm))
          have HF9 := Lib.hid (((HF2.out.setCell _ _ _ (by simp)).setCell _ _ _ (by simp)).trans (hf9.fs (l := [x, m]) (by simp)))
          clear hr9 hf9
          go_wp2_with fail
          go_end0
          exact ⟨rfl, true, by rw [hres.out, if_pos rfl]; exact HR9.out, HM9.out, HF9.out⟩
        · have hl2 : ¬ l = 0 := by omega
          have hl3 : ((l : Nat) : Int) ≠ 0 := by omega
          have hl4 : (((l : Nat) : Int) == 0) = false := by simpa using hl2
          go_wp2_with fail
          go_end0
          exact ⟨rfl, false, by rw [hres.out]; exact (HR2.out.setOther _ _ _ hxm).setOther _ _ _ hxm, (HM2.out.set13 _).set14 _ _ _, (HF2.out.setCell _ _ _ (by simp)).setCell _ _ _ (by simp)⟩

set_option maxRecDepth 100000 in
set_option maxHeartbeats 1000000 in
theorem sext_other {x m g : Nat} {C : Array Value} {st : Nat × List UInt8} (kind : Nat) (hk : kind ≠ 5 ∧ kind ≠ 35 ∧ kind ≠ 65281 ∧ kind ≠ 23 ∧ kind ≠ 16 ∧ kind ≠ 18 ∧ kind ≠ 43 ∧ kind ≠ 51 ∧ kind ≠ 41 ∧ kind ≠ 44 ∧ kind ≠ 11 ∧ kind ≠ 65037 ∧ kind ≠ 0) (w : World) (hxm : x ≠ m) (hR : RAt w x C g st) (hM : MAt w m) :
    Calls Try.prog 56 #[.pointer (some ⟨x, 0, none⟩), .int .u16 kind, .pointer (some ⟨m, 0, none⟩)] w (SextPost w x m C g kind st) := by
  have HR := Lib.hid hR
  have HM := Lib.hid hM
  obtain ⟨v, hh, hv⟩ := hR
  obtain ⟨code, bs⟩ := st
  obtain ⟨a, cap, rfl, _, _⟩ := hv.len
  simp only at hh hv
  have f0 : w.cell? ⟨x, 0, none⟩ = some (.slice a bs.length cap) := by rw [cell_of_heap hh]; rfl
  obtain ⟨h1, h2, h3, h4, h5, h6, h7, h8, h9, h10, h11, h12, h13⟩ := hk
  have k1 : ¬ ((kind : Nat) : Int) = 5 := by omega
  have k2 : ¬ ((kind : Nat) : Int) = 35 := by omega
  have k3 : ¬ ((kind : Nat) : Int) = 65281 := by omega
  have k4 : ¬ ((kind : Nat) : Int) = 23 := by omega
  have k5 : ¬ ((kind : Nat) : Int) = 16 := by omega
  have k6 : ¬ ((kind : Nat) : Int) = 18 := by omega
  have k7 : ¬ ((kind : Nat) : Int) = 43 := by omega
  have k8 : ¬ ((kind : Nat) : Int) = 51 := by omega
  have k9 : ¬ ((kind : Nat) : Int) = 41 := by omega
  have k10 : ¬ ((kind : Nat) : Int) = 44 := by omega
  have k11 : ¬ ((kind : Nat) : Int) = 11 := by omega
  have k12 : ¬ ((kind : Nat) : Int) = 65037 := by omega
  have k13 : ¬ ((kind : Nat) : Int) = 0 := by omega
  have hres : Hid (rsext kind false (code, bs) = (code, [])) := by
    unfold rsext
    rw [if_neg (by omega), if_neg h3, if_neg h5, if_neg h6, if_neg (by omega), if_neg h8, if_neg h10, if_neg h11, if_neg h12]; rfl
  clear hh hv hM h1 h2 h3 h4 h5 h6 h7 h8 h9 h10 h11 h12 h13
  go_enter Try.func56, Try.ntmps56
  go_wp2_with fail
  refine (take_yes bs.length w (Nat.le_refl _) HR.out).mono ?_
  rintro e w1 ⟨u, rfl, hv1, hr1, hf1⟩
  rw [List.drop_length] at hr1
  have HR1 := Lib.hid hr1
  have HF1 := Lib.hid (hf1.fs (l := [x]) (by simp))
  clear hv1 hr1 hf1
  go_wp2_with fail
  go_end0
  exact ⟨rfl, false, by rw [hres.out]; exact HR1.out, HM.out.fs HF1.out (by simpa using fun h => hxm h.symm), HF1.out.mono (by simp)⟩

theorem sext_ok {x m g : Nat} {C : Array Value} {T : TypeId} {fr : Nat × Nat} {st : Nat × List UInt8} (kind : Nat) (w : World) (hg : w.heap[g]? = some (.cells C T fr)) (hgx : g ≠ x) (hgm : g ≠ m) (hxm : x ≠ m) (hR : RAt w x C g st) (hM : MAt w m) :
    Calls Try.prog 56 #[.pointer (some ⟨x, 0, none⟩), .int .u16 kind, .pointer (some ⟨m, 0, none⟩)] w (SextPost w x m C g kind st) := by
  by_cases h5 : kind = 5
  · subst h5; exact sext_5 w hg hgx hgm hxm hR hM
  by_cases h35 : kind = 35
  · subst h35; exact sext_35 w hg hgx hgm hxm hR hM
  by_cases h65281 : kind = 65281
  · subst h65281; exact sext_65281 w hg hgx hgm hxm hR hM
  by_cases h23 : kind = 23
  · subst h23; exact sext_23 w hg hgx hgm hxm hR hM
  by_cases h16 : kind = 16
  · subst h16; exact sext_16 w hg hgx hgm hxm hR hM
  by_cases h18 : kind = 18
  · subst h18; exact sext_18 w hg hgx hgm hxm hR hM
  by_cases h43 : kind = 43
  · subst h43; exact sext_43 w hg hgx hgm hxm hR hM
  by_cases h51 : kind = 51
  · subst h51; exact sext_51 w hg hgx hgm hxm hR hM
  by_cases h41 : kind = 41
  · subst h41; exact sext_41 w hg hgx hgm hxm hR hM
  by_cases h44 : kind = 44
  · subst h44; exact sext_44 w hg hgx hgm hxm hR hM
  by_cases h11 : kind = 11
  · subst h11; exact sext_11 w hg hgx hgm hxm hR hM
  by_cases h65037 : kind = 65037
  · subst h65037; exact sext_65037 w hg hgx hgm hxm hR hM
  by_cases h0 : kind = 0
  · subst h0; exact sext_0 w hg hgx hgm hxm hR hM
  exact sext_other kind ⟨h5, h35, h65281, h23, h16, h18, h43, h51, h41, h44, h11, h65037, h0⟩ w hxm hR hM

end Go.Proofs.Ytopcljikkdlffaa
namespace Go.Proofs.Ytopcljikkdlffaa
open Go.RowKit

/-- A struct is read, in a region that draws its order. -/
theorem wpStill_load_row {P : Program} {ops : Array Oper} {rest : List Oper} {o : Oper} {a : Act} {w : World} {Q : Act → Prop} (hgd : o.guard = none) (ty : TypeId) (x : Operand) (ho : o.op = .load ty x)
    (g : Nat) (hx : a.eval x = .pointer (some ⟨g, 0, none⟩)) (t : TypeId) (cs : Array Value) (fr : Nat × Nat) (d : TypeDesc) (hg : w.heap[g]? = some (.cells cs t fr))
    (hu : P.underlying ty = some d) (hd : (match d with | .struct _ | .array _ _ => true | _ => false) = true) (hi : (P.info? ty).map (·.size) = some cs.size)
    (h : wpStill P ops w Q rest (a.put o.dst (.agg cs))) : wpStill P ops w Q (o :: rest) a := by
  refine wpStill_step fun K hK => ?_
  simp only [Region.wanted, hgd, if_true]
  unfold Oper.still execOp
  simp only [ho, hx, Instr.loadAt, Instr.sureAddr, Sem.run_bind, Sem.run_pure, Result.andThen_ok, run_loadVar_row w g t ty cs fr d hg hu hd hi]
  exact ⟨rfl, hK _ h⟩

/-- A struct is read, as an equation. -/
theorem exec_load_row {P : Program} {ρ : Operand → Value} {o : Oper} {w : World} (ty : TypeId) (x : Operand) (ho : o.op = .load ty x)
    (g : Nat) (hx : ρ x = .pointer (some ⟨g, 0, none⟩)) (t : TypeId) (cs : Array Value) (fr : Nat × Nat) (d : TypeDesc) (hg : w.heap[g]? = some (.cells cs t fr))
    (hu : P.underlying ty = some d) (hd : (match d with | .struct _ | .array _ _ => true | _ => false) = true) (hi : (P.info? ty).map (·.size) = some cs.size) :
    (execOp ρ o).run P w = .ok (.value (.agg cs)) w := by
  unfold execOp
  simp only [ho, hx, Instr.loadAt, Instr.sureAddr, Sem.run_bind, Sem.run_pure, Result.andThen_ok, run_loadVar_row w g t ty cs fr d hg hu hd hi]

/-- A struct and one value more are handed back. -/
theorem results_row_tmp {P : Program} {fn : Func} {p u : Tmp} {ty : TypeId} (h : fn.results = #[.cell p ty, .tmp u]) (tmps : Array Value) (w : World) (g : Nat) (t : TypeId) (cs : Array Value) (fr : Nat × Nat) (d : TypeDesc)
    (hp : tmps.getD p undef = .pointer (some ⟨g, 0, none⟩)) (hg : w.heap[g]? = some (.cells cs t fr))
    (hu : P.underlying ty = some d) (hd : (match d with | .struct _ | .array _ _ => true | _ => false) = true) (hi : (P.info? ty).map (·.size) = some cs.size) :
    (results fn tmps).run P w = .ok (.tuple #[.agg cs, tmps.getD u undef]) w := by
  rw [results_cell_tmp h, hp]
  simp [asAddr, run_loadVar_row w g t ty cs fr d hg hu hd hi, Result.andThen]

theorem ret_row_tmp {P : Program} {fn : Func} {R : Ending → World → Prop} {a : Act} {w : World} {p u : Tmp} {ty : TypeId} (v : Value) (h : fn.results = #[.cell p ty, .tmp u]) (g : Nat) (t : TypeId) (cs : Array Value) (fr : Nat × Nat) (d : TypeDesc)
    (hp : a.tmps.getD p undef = .pointer (some ⟨g, 0, none⟩)) (hv : a.tmps.getD u undef = v) (hg : w.heap[g]? = some (.cells cs t fr))
    (hu : P.underlying ty = some d) (hd : (match d with | .struct _ | .array _ _ => true | _ => false) = true) (hi : (P.info? ty).map (·.size) = some cs.size) (hdf : a.defers = [])
    (hR : R (.returned (.tuple #[.agg cs, v])) w) : bodyPost P fn R .ret a w :=
  bodyPost_ret (by rw [results_row_tmp h _ _ g t cs fr d hp hg hu hd hi, hv]) hdf hR

theorem exec_build {P : Program} {o : Oper} {a : Act} {w : World} (t : TypeId) (parts : Array (Nat × Operand)) (cells : Array Value) (ho : o.op = .build t parts)
    (hf : P.built t (parts.map fun (i, x) => (i, a.eval x)).toList = some cells) : (execOp a.eval o).run P w = .ok (.value (.agg cells)) w := by
  unfold execOp
  simp only [ho, Sem.run_bind, run_build w t _ cells hf, Result.andThen_ok]
  rfl

/-- Reads and reckonings, one behind the other. -/
def stl (P : Program) (w : World) (Q : Act → Prop) : List Oper → Act → Prop
  | [], a => Q a
  | o :: r, a => ∃ v, (execOp a.eval o).run P w = .ok (.value v) w ∧ stl P w Q r (a.put o.dst v)

theorem stl_still {P : Program} {ops : Array Oper} {w : World} {Q : Act → Prop} : ∀ {l : List Oper} {a : Act}, l.all (fun o => o.guard.isNone) = true → stl P w Q l a → wpStill P ops w Q l a
  | [], _, _, h => h
  | o :: r, a, hg, ⟨v, hr, h⟩ => by
    simp only [List.all_cons, Bool.and_eq_true, Option.isNone_iff_eq_none] at hg
    refine wpStill_step fun K hK => ?_
    simp only [Region.wanted, hg.1, if_true]
    unfold Oper.still
    rw [hr]
    exact ⟨rfl, hK _ (stl_still hg.2 h)⟩

end Go.Proofs.Ytopcljikkdlffaa
