/- The reference's reader: vectors. cryptobyte.String's readers over blocks of one cell. A map of the numbers of extensions that were seen. No statement of the seat is proved here. -/
import Derived.Test.YtopcljikkdlffaaX08
import Derived.Test.YtopcljikkdlffaaX02
import Derived.Maps.OwnOps
import Derived.Maps.OwnSet
namespace Go.Proofs.Ytopcljikkdlffaa
open Go.RowKit

/-- Vectors until nothing is left. -/
def rvecs (k low : Nat) : Nat → Nat × List UInt8 → List (List UInt8) × (Nat × List UInt8)
  | 0, sp => ([], sp)
  | f + 1, sp => if sp.2 = [] then ([], sp) else ((rvec k low (256 ^ k - 1) sp).1 :: (rvecs k low f (rvec k low (256 ^ k - 1) sp).2).1, (rvecs k low f (rvec k low (256 ^ k - 1) sp).2).2)

theorem rfail_rest (k : Nat) (st : Nat × List UInt8) : (rfail k st).2 = [] := rfl

theorem rnum_rest {k : Nat} {st : Nat × List UInt8} (hk : 0 < k) (h : st.2 ≠ []) : (rnum k st).2.2.length < st.2.length := by
  have hl := List.length_pos_iff.2 h
  unfold rnum
  split
  · simpa [rfail] using hl
  · simp only [List.length_drop]; omega

theorem rvec_rest {k low high : Nat} {st : Nat × List UInt8} (hk : 0 < k) (h : st.2 ≠ []) : (rvec k low high st).2.2.length < st.2.length := by
  have h1 := rnum_rest hk h
  unfold rvec
  split
  · exact h1
  · split
    · simp; omega
    · split
      · simp; omega
      · simp only [List.length_drop]; omega

/-- Slices over the data, in a row of their own. -/
def OutL (w : World) (base : Nat) (C : Array Value) (g : Nat) (v : Value) (L : List (List UInt8)) : Prop :=
  ∃ us, w.ownsRow base 22 1 v L.length us ∧ ∀ (j : Nat) (s : List UInt8), L[j]? = some s → ∃ u, us[j]? = some u ∧ VN C g u s

theorem own_fm {w w' : World} {base p n : Nat} {e T : TypeId} {size : Nat} {v : Value} {xs : List Value} {D : Array Value} {fr : Nat × Nat} (h : w.ownsRow base e size v n xs) (hf : Fm p w w') (hp : w.heap[p]? = some (.cells D T fr)) (hT : T ≠ e) : w'.ownsRow base e size v n xs := by
  refine ⟨h.1, ?_⟩
  rcases h.2 with h2 | ⟨g, cap, cur, hv, hg, hh, r⟩
  · exact .inl h2
  · refine .inr ⟨g, cap, cur, hv, hg, (hf.keep g (lt_of_heap hh) ?_).trans hh, r⟩
    rintro rfl
    rw [hp] at hh
    simp only [Option.some.injEq, Obj.cells.injEq] at hh
    exact hT hh.2.1

theorem grown_keep {w w' : World} {base size n c : Nat} {e : TypeId} {v : Value} {xs : List Value} {D : Array Value} {T : TypeId} {fr : Nat × Nat} (hg : w.grownBy w' v.ownBlock) (ho : w.ownsRow base e size v n xs)
    (hc : w.heap[c]? = some (.cells D T fr)) (hT : T ≠ e ∨ c < base) : w'.heap[c]? = some (.cells D T fr) := by
  rw [hg.block c (lt_of_heap hc), hc]
  intro h
  rcases ho.2 with ⟨rfl, _⟩ | ⟨g, cap, cur, rfl, hb, hh, _⟩
  · cases h
  · simp only [Value.ownBlock, Option.some.injEq] at h
    subst h
    rw [hc] at hh
    simp only [Option.some.injEq, Obj.cells.injEq] at hh
    rcases hT with hT | hT
    · exact hT hh.2.1
    · omega

/-- How much the slice in a cell holds. -/
def cellLen (w : World) (p : Nat) : Nat := match w.cell? ⟨p, 0, none⟩ with | some (.slice _ n _) => n | _ => 0

theorem RAt.cellLen {w : World} {c g : Nat} {C : Array Value} {st : Nat × List UInt8} (h : RAt w c C g st) : cellLen w c = st.2.length := by
  obtain ⟨v, hh, hv⟩ := h
  obtain ⟨a, cap, rfl, _, _⟩ := hv.len
  unfold Proofs.Ytopcljikkdlffaa.cellLen
  rw [cell_of_heap hh]
  rfl

set_option maxRecDepth 100000 in
set_option maxHeartbeats 2000000 in
theorem rvectors_ok {c g : Nat} {C : Array Value} {T : TypeId} {fr : Nat × Nat} {st : Nat × List UInt8} {u : Value} {bx : List UInt8} (k low : Nat) (w : World) (hk : k = 1 ∨ k = 2 ∨ k = 3) (hg : w.heap[g]? = some (.cells C T fr)) (hgc : g ≠ c) (hbl : bx.length ≤ 2147483647)
    (hu : VN C g u bx) (hR : RAt w c C g st) :
    Calls Try.prog 82 #[.pointer (some ⟨c, 0, none⟩), u, .int .i64 k, .int .i64 low] w fun e w' => ∃ o, e = .returned o ∧ OutL w' w.heap.size C g o (rvecs k low bx.length (rin st bx)).1 ∧ RAt w' c C g (rdone st (rvecs k low bx.length (rin st bx)).2) ∧ Fs [c] w w' := by
  obtain ⟨i0, hi, hz0, hz1, hz2⟩ := info_parts Try.info22
  have HR := Lib.hid hR
  have HG := Lib.hid hg
  have HU := Lib.hid hu
  have hcl : c < w.heap.size := by obtain ⟨v, hh, _⟩ := hR; exact lt_of_heap hh
  have hgl := lt_of_heap hg
  have hw8 : IntKind.i64.wrap (8 * (k : Int)) = 8 * (k : Int) := IntWalk.i64_in _ ⟨by omega, by omega⟩
  obtain ⟨M, hM⟩ : ∃ M, M = 256 ^ k - 1 := ⟨_, rfl⟩
  have hm : wrap64 (2 ^ (8 * k)) = (M : Int) + 1 := by rw [hM]; rcases hk with rfl | rfl | rfl <;> (unfold wrap64; simp)
  have hkp : M ≤ 16777215 := by rw [hM]; rcases hk with rfl | rfl | rfl <;> simp
  have HM := Lib.hid hM
  clear hM
  obtain ⟨a, cap, rfl, _, _⟩ := hu.len
  clear hR hg hu
  go_enter Try.func82, Try.ntmps82
  go_wp2_with fail
  refine (within_ok w HU.out HR.out).mono ?_
  rintro e w1 ⟨rfl, hp1, hf1⟩
  have HP1 : Hid (RAt w1 w.heap.size C g (rin st bx)) := hp1
  have HF1 := Lib.hid hf1
  clear hp1 hf1
  go_wp2_with fail
  go_loopw [9] (fun o wr => ∃ (don : List (List UInt8)) (sp : Nat × List UInt8) (f : Nat), OutL wr w.heap.size C g o don ∧ RAt wr w.heap.size C g sp ∧ sp.2.length ≤ f ∧ sp.2.length + don.length ≤ 2147483647 ∧
      don ++ (rvecs k low f sp).1 = (rvecs k low bx.length (rin st bx)).1 ∧ (rvecs k low f sp).2 = (rvecs k low bx.length (rin st bx)).2 ∧ Fs [w.heap.size] w wr) (fun _ wr => cellLen wr w.heap.size)
  case atStart =>
    refine ⟨[], rin st bx, bx.length, ⟨[], World.ownsRow_nil _ _ _ _, fun j s hj => by simp at hj⟩, HP1.out, ?_, ?_, rfl, rfl, HF1.out.mono (by simp)⟩
    · unfold rin; split <;> simp
    · unfold rin; split <;> simp <;> omega
  case round =>
    obtain ⟨don, sp, f, hout, hp, hf, hlen, he1, he2, hfs⟩ := hrel
    obtain ⟨code, bs⟩ := sp
    obtain ⟨v2, hh, hv2⟩ := id hp
    obtain ⟨a2, cap2, rfl, _, _⟩ := hv2.len
    simp only at hh hf hlen
    have f0 : wr.cell? ⟨w.heap.size, 0, none⟩ = some (.slice a2 bs.length cap2) := by rw [cell_of_heap hh]; rfl
    have HP := Lib.hid hp
    have HOUT := Lib.hid hout
    have HFS := Lib.hid hfs
    have HH := Lib.hid hh
    have HE1 := Lib.hid he1
    have HE2 := Lib.hid he2
    have hcl2 := HP.out.cellLen
    clear hp hout hfs hh hv2 he1 he2
    by_cases h0 : bs = []
    · subst h0
      have hz : rvecs k low f (code, []) = ([], (code, [])) := by
        cases f with
        | zero => rfl
        | succ f => show (if ([] : List UInt8) = [] then _ else _) = _; rw [if_pos rfl]
      have he1 := HE1.out
      have he2 := HE2.out
      rw [hz] at he1 he2
      simp only [List.append_nil] at he1 he2
      have HE3 := Lib.hid he1
      have HE4 := Lib.hid he2
      have HRr := Lib.hid (HR.out.fs HFS.out (by simp; omega))
      obtain ⟨us, hown, hus⟩ := HOUT.out
      obtain ⟨ao, co, rfl⟩ := row_slice hown
      have HO := Lib.hid hown
      have HUS := Lib.hid hus
      clear he1 he2 hz hown hus hcl2
      go_wp2_with fail
      refine (done_ok wr (by omega : c ≠ w.heap.size) HRr.out HP.out).mono ?_
      rintro e w5 ⟨rfl, hr5, hf5⟩
      have hown5 : w5.ownsRow w.heap.size 22 1 (.slice ao don.length co) don.length us := by
        refine ⟨HO.out.1, ?_⟩
        rcases HO.out.2 with h2 | ⟨g', cp, cur, hv, hg', hh', r⟩
        · exact .inl h2
        · refine .inr ⟨g', cp, cur, hv, hg', (hf5.keep g' (lt_of_heap hh') ?_).trans hh', r⟩
          intro hm
          rcases List.mem_cons.1 hm with e | e
          · omega
          · have e2 : g' = w.heap.size := by simpa using e
            subst e2
            rw [HH.out] at hh'
            simp at hh'
      have HO5 := Lib.hid hown5
      have HR5 := Lib.hid hr5
      have HF5 : Hid (Fs [c] w w5) := (((HFS.out.mono (l' := [w.heap.size, c]) (by simp)).trans (hf5.mono (by simp))).fresh (Nat.le_refl _))
      clear hr5 hf5 hown5
      go_wp2_with fail
      go_ret
      exact ⟨_, rfl, ⟨us, by rw [← HE3.out]; exact HO5.out, by rw [← HE3.out]; exact HUS.out⟩, by rw [← HE4.out]; exact HR5.out, HF5.out⟩
    · have hl : ((bs.length : Nat) : Int) > 0 := by have := List.length_pos_iff.2 h0; omega
      obtain ⟨f, rfl⟩ : ∃ f', f = f' + 1 := ⟨f - 1, by omega⟩
      have hgr : wr.heap[g]? = some (.cells C T fr) := (HFS.out.keep g hgl (by simp; omega)).trans HG.out
      have HGR := Lib.hid hgr
      clear hgr
      obtain ⟨us, hown, hus⟩ := HOUT.out
      obtain ⟨ao, co, rfl⟩ := row_slice hown
      go_wp2_with fail
      refine (vec_ok k low M wr (by omega) HGR.out (by omega) HP.out).mono ?_
      rintro e w2 ⟨x, rfl, hvx, hp2, hf2⟩
      have hX := rvec_rest (low := low) (high := M) (st := (code, bs)) (by omega : 0 < k) h0
      have hY : rvecs k low (f + 1) (code, bs) = ((rvec k low M (code, bs)).1 :: (rvecs k low f (rvec k low M (code, bs)).2).1, (rvecs k low f (rvec k low M (code, bs)).2).2) := by
        show (if bs = [] then _ else _) = _
        rw [if_neg h0, ← HM.out]
      have he1 := HE1.out
      have he2 := HE2.out
      rw [hY] at he1 he2
      obtain ⟨Y, hYd⟩ : ∃ Y, Y = rvec k low M (code, bs) := ⟨_, rfl⟩
      rw [← hYd] at hX hvx hp2 he1 he2
      have HE1 := Lib.hid he1
      have HE2 := Lib.hid he2
      have hown2 := own_fm hown hf2 HH.out (by decide)
      have HO2 := Lib.hid hown2
      have HUS := Lib.hid hus
      have HVX := Lib.hid hvx
      have HP2 := Lib.hid hp2
      have HF2 := Lib.hid hf2
      obtain ⟨ax, cx, rfl, _, _⟩ := hvx.len
      have hw2 : w.heap.size ≤ w2.heap.size := Nat.le_trans HFS.out.size hf2.size
      clear hown hus hvx hp2 hf2 he1 he2 hY hYd hown2 hcl2
      simp only at hX
      go_wp2_with (at_builtin; go_loud (refine wpList_append_own _ rfl (.tmp 20) (.tmp 29) 29 rfl w.heap.size 22 i0 (.slice none 0 0) 1 24 Try.underlying29 hi hz0 hz1 hz2 rfl (by decide) _ don.length us rfl (HO2.out.alloc _) ⟨w2.heap.size, 0, none⟩ 1 1 [.slice ax Y.1.length cx] rfl rfl ?_ ?_ ?_ ?_ ?_ ?_))
      · intro j u hu
        match j, hu with
        | 0, hu => simp at hu; subst hu; exact World.cell?_alloc_new _ _ _ _
      · intro u hu; simp at hu; subst hu; rfl
      · unfold maxLen; omega
      · omega
      · simp; omega
      intro v' w3 hown3 hgrow _
      obtain ⟨ao3, co3, rfl⟩ := row_slice hown3
      have hp3 : RAt w3 w.heap.size C g Y.2 := by
        obtain ⟨vv, hh2, hvv⟩ := HP2.out
        exact ⟨vv, grown_keep hgrow (HO2.out.alloc _) ((Below.heap_alloc _ _ _ (lt_of_heap hh2)).trans hh2) (.inl (by decide)), hvv⟩
      have hfs3 : Fs [w.heap.size] w w3 := by
        have h2 := HFS.out.trans (HF2.out.fs (by simp))
        refine ⟨hgrow.os.trans h2.os, hgrow.tape.trans h2.tape, hgrow.output.trans h2.output, ?_, fun i hi' hn => ?_⟩
        · have h := hgrow.size; simp at h; omega
        · have hb : (w2.alloc (Obj.cells #[Value.slice ax Y.1.length cx] 22)).heap[i]? = w2.heap[i]? := Below.heap_alloc _ _ _ (by omega)
          rw [← h2.keep i hi' hn, ← hb]
          refine hgrow.block i (by simp; omega) ?_
          intro h
          rcases (HO2.out.alloc (Obj.cells #[Value.slice ax Y.1.length cx] 22)).2 with ⟨e, _⟩ | ⟨g', cp, cur, e, hb', _⟩
          · rw [e] at h; cases h
          · rw [e] at h
            simp only [Value.ownBlock, Option.some.injEq] at h
            omega
      have HO3 := Lib.hid hown3
      have HP3 := Lib.hid hp3
      have HFS3 := Lib.hid hfs3
      clear hown3 hgrow hp3 hfs3
      have hul : us.length = don.length := by have h := HO2.out.1; omega
      have HUL := Lib.hid hul
      clear hul
      go_wp2_with fail
      refine ⟨⟨don ++ [Y.1], Y.2, f, ⟨us ++ [.slice ax Y.1.length cx], by simpa using HO3.out, fun j s hj => ?_⟩, HP3.out, by omega, by simp; omega, by rw [List.append_assoc]; exact HE1.out, HE2.out, HFS3.out⟩, by rw [HP3.out.cellLen, HP.out.cellLen]; exact hX⟩
      have hul := HUL.out
      by_cases hjd : j < don.length
      · rw [List.getElem?_append_left hjd] at hj
        obtain ⟨u, hu, hv⟩ := HUS.out j s hj
        exact ⟨u, by rw [List.getElem?_append_left (by omega)]; exact hu, hv⟩
      · rw [List.getElem?_append_right (by omega)] at hj
        have h0j : j - don.length = 0 := by
          have := (List.getElem?_eq_some_iff.1 hj).1
          simp at this
          omega
        rw [h0j] at hj
        simp only [List.getElem?_cons_zero, Option.some.injEq] at hj
        subst hj
        exact ⟨_, by rw [List.getElem?_append_right (by omega), hul, h0j]; rfl, HVX.out⟩

end Go.Proofs.Ytopcljikkdlffaa
namespace Go.Proofs.Ytopcljikkdlffaa
open Go.RowKit

theorem heap_past {w : World} {m k dB : Nat} {u : Value} {ob : Option Obj} (h : w.heap[dB]? = ob) (hmd : m ≠ dB) : (w.setCell ⟨m, k, none⟩ u).heap[dB]? = ob :=
  (Below.heap_setCell _ _ _ _ (fun e => hmd e.symm)).trans h
theorem cell_head {w : World} {dB : Nat} {vd : Value} {T : TypeId} {fr : Nat × Nat} (h : w.heap[dB]? = some (.cells #[vd] T fr)) : w.cell? ⟨dB, 0, none⟩ = some vd := by
  rw [cell_of_heap h]; rfl
theorem Fs.drew {l : List Nat} {a b : World} (h : Fs l a b) : Fs l a b.drew := ⟨h.os, h.tape, h.output, h.size, h.keep⟩
theorem Fs.set {l : List Nat} {a w : World} (h : Fs l a w) (m o : Nat) (u : Value) (hm : m ∈ l) : Fs l a (w.setCell ⟨m, o, none⟩ u) :=
  h.trans ⟨rfl, rfl, rfl, by simp [World.setCell], fun k _ hn => Below.heap_setCell _ _ _ _ (fun e => hn (e ▸ hm))⟩
theorem Fs.push {l : List Nat} {a w : World} (h : Fs l a w) (ob : Obj) : Fs l a (w.alloc ob) :=
  h.trans ⟨rfl, rfl, rfl, by simp, fun k hk _ => Below.heap_alloc _ _ _ hk⟩
theorem heap_push {w : World} {k : Nat} {ob x : Obj} (h : w.heap[k]? = some x) : (w.alloc ob).heap[k]? = some x := by
  have hk : k < w.heap.size := (Array.getElem?_eq_some_iff.1 h).1
  exact (Below.heap_alloc _ _ _ hk).trans h

theorem cellLen_of {w : World} {p g : Nat} {C : Array Value} {v : Value} {s : List UInt8} {T : TypeId} {fr : Nat × Nat} (h : w.heap[p]? = some (.cells #[v] T fr)) (hv : View C g v s) : cellLen w p = s.length := by
  obtain ⟨off, cap, rfl, _⟩ := hv
  unfold cellLen
  rw [cell_head h]

theorem r8_at {C : Array Value} {p q g : Nat} {T Tp Tq : TypeId} {fr : Nat × Nat} {v vq : Value} {bs x r : List UInt8} (w : World) (hr : rdv 1 bs = some (x, r)) (hg : w.heap[g]? = some (.cells C T fr)) (hV : View C g v bs)
    (hp : w.heap[p]? = some (.cells #[v] Tp (0, 0))) (hq : w.heap[q]? = some (.cells #[vq] Tq (0, 0))) (hpg : g ≠ p) (hpq : p ≠ q) :
    Calls Try.prog 101 #[.pointer (some ⟨p, 0, none⟩), .pointer (some ⟨q, 0, none⟩)] w fun e w' => ∃ v1 v2, e = .returned (.bool true) ∧ View C g v1 x ∧ View C g v2 r ∧
      w'.heap[p]? = some (.cells #[v2] Tp (0, 0)) ∧ w'.heap[q]? = some (.cells #[v1] Tq (0, 0)) ∧ Fs [p, q] w w' := by
  refine (r8_yes ⟨p, 0, none⟩ ⟨q, 0, none⟩ w hr hg hV (cell_head hp) (frozen_of_heap hp) (cell_head hq) (frozen_of_heap hq) (fun e => hpg e.symm) (by simp [hpq])).mono ?_
  rintro e w1 ⟨v1, v2, rfl, hv1, hv2, rfl⟩
  exact ⟨v1, v2, rfl, hv1, hv2, heap_past ((heap_set_same hp).trans rfl) (fun e => hpq e.symm), (heap_set_same (heap_past hq hpq)).trans rfl, ((Fs.refl _ w).set p 0 _ (by simp)).set q 0 _ (by simp)⟩
theorem r8_not {C : Array Value} {p g : Nat} {T Tp : TypeId} {fr : Nat × Nat} {v : Value} {bs : List UInt8} (qo : Option Addr) (w : World) (hr : rdv 1 bs = none) (hg : w.heap[g]? = some (.cells C T fr)) (hV : View C g v bs)
    (hp : w.heap[p]? = some (.cells #[v] Tp (0, 0))) (hpg : g ≠ p) :
    Calls Try.prog 101 #[.pointer (some ⟨p, 0, none⟩), .pointer qo] w fun e w' => e = .returned (.bool false) ∧ Fs [p] w w' := by
  refine (r8_no ⟨p, 0, none⟩ qo w hr hg hV (cell_head hp) (frozen_of_heap hp) (fun e => hpg e.symm)).mono ?_
  rintro e w1 ⟨v2, rfl, rfl⟩
  exact ⟨rfl, (Fs.refl _ w).set p 0 _ (by simp)⟩

theorem r16_at {C : Array Value} {p q g : Nat} {T Tp Tq : TypeId} {fr : Nat × Nat} {v vq : Value} {bs x r : List UInt8} (w : World) (hr : rdv 2 bs = some (x, r)) (hg : w.heap[g]? = some (.cells C T fr)) (hV : View C g v bs)
    (hp : w.heap[p]? = some (.cells #[v] Tp (0, 0))) (hq : w.heap[q]? = some (.cells #[vq] Tq (0, 0))) (hpg : g ≠ p) (hpq : p ≠ q) :
    Calls Try.prog 100 #[.pointer (some ⟨p, 0, none⟩), .pointer (some ⟨q, 0, none⟩)] w fun e w' => ∃ v1 v2, e = .returned (.bool true) ∧ View C g v1 x ∧ View C g v2 r ∧
      w'.heap[p]? = some (.cells #[v2] Tp (0, 0)) ∧ w'.heap[q]? = some (.cells #[v1] Tq (0, 0)) ∧ Fs [p, q] w w' := by
  refine (r16_yes ⟨p, 0, none⟩ ⟨q, 0, none⟩ w hr hg hV (cell_head hp) (frozen_of_heap hp) (cell_head hq) (frozen_of_heap hq) (fun e => hpg e.symm) (by simp [hpq])).mono ?_
  rintro e w1 ⟨v1, v2, rfl, hv1, hv2, rfl⟩
  exact ⟨v1, v2, rfl, hv1, hv2, heap_past ((heap_set_same hp).trans rfl) (fun e => hpq e.symm), (heap_set_same (heap_past hq hpq)).trans rfl, ((Fs.refl _ w).set p 0 _ (by simp)).set q 0 _ (by simp)⟩
theorem r16_not {C : Array Value} {p g : Nat} {T Tp : TypeId} {fr : Nat × Nat} {v : Value} {bs : List UInt8} (qo : Option Addr) (w : World) (hr : rdv 2 bs = none) (hg : w.heap[g]? = some (.cells C T fr)) (hV : View C g v bs)
    (hp : w.heap[p]? = some (.cells #[v] Tp (0, 0))) (hpg : g ≠ p) :
    Calls Try.prog 100 #[.pointer (some ⟨p, 0, none⟩), .pointer qo] w fun e w' => e = .returned (.bool false) ∧ Fs [p] w w' := by
  refine (r16_no ⟨p, 0, none⟩ qo w hr hg hV (cell_head hp) (frozen_of_heap hp) (fun e => hpg e.symm)).mono ?_
  rintro e w1 ⟨v2, rfl, rfl⟩
  exact ⟨rfl, (Fs.refl _ w).set p 0 _ (by simp)⟩

theorem r24_at {C : Array Value} {p q g : Nat} {T Tp Tq : TypeId} {fr : Nat × Nat} {v vq : Value} {bs x r : List UInt8} (w : World) (hr : rdv 3 bs = some (x, r)) (hg : w.heap[g]? = some (.cells C T fr)) (hV : View C g v bs)
    (hp : w.heap[p]? = some (.cells #[v] Tp (0, 0))) (hq : w.heap[q]? = some (.cells #[vq] Tq (0, 0))) (hpg : g ≠ p) (hpq : p ≠ q) :
    Calls Try.prog 142 #[.pointer (some ⟨p, 0, none⟩), .pointer (some ⟨q, 0, none⟩)] w fun e w' => ∃ v1 v2, e = .returned (.bool true) ∧ View C g v1 x ∧ View C g v2 r ∧
      w'.heap[p]? = some (.cells #[v2] Tp (0, 0)) ∧ w'.heap[q]? = some (.cells #[v1] Tq (0, 0)) ∧ Fs [p, q] w w' := by
  refine (r24_yes ⟨p, 0, none⟩ ⟨q, 0, none⟩ w hr hg hV (cell_head hp) (frozen_of_heap hp) (cell_head hq) (frozen_of_heap hq) (fun e => hpg e.symm) (by simp [hpq])).mono ?_
  rintro e w1 ⟨v1, v2, rfl, hv1, hv2, rfl⟩
  exact ⟨v1, v2, rfl, hv1, hv2, heap_past ((heap_set_same hp).trans rfl) (fun e => hpq e.symm), (heap_set_same (heap_past hq hpq)).trans rfl, ((Fs.refl _ w).set p 0 _ (by simp)).set q 0 _ (by simp)⟩
theorem r24_not {C : Array Value} {p g : Nat} {T Tp : TypeId} {fr : Nat × Nat} {v : Value} {bs : List UInt8} (qo : Option Addr) (w : World) (hr : rdv 3 bs = none) (hg : w.heap[g]? = some (.cells C T fr)) (hV : View C g v bs)
    (hp : w.heap[p]? = some (.cells #[v] Tp (0, 0))) (hpg : g ≠ p) :
    Calls Try.prog 142 #[.pointer (some ⟨p, 0, none⟩), .pointer qo] w fun e w' => e = .returned (.bool false) ∧ Fs [p] w w' := by
  refine (r24_no ⟨p, 0, none⟩ qo w hr hg hV (cell_head hp) (frozen_of_heap hp) (fun e => hpg e.symm)).mono ?_
  rintro e w1 ⟨v2, rfl, rfl⟩
  exact ⟨rfl, (Fs.refl _ w).set p 0 _ (by simp)⟩

theorem t8_at {C : Array Value} {p q g : Nat} {T Tp Tq : TypeId} {fr : Nat × Nat} {v vq : Value} {bs x r : List UInt8} (w : World) (hr : rdv 1 bs = some (x, r)) (hg : w.heap[g]? = some (.cells C T fr)) (hV : View C g v bs)
    (hp : w.heap[p]? = some (.cells #[v] Tp (0, 0))) (hq : w.heap[q]? = some (.cells #[vq] Tq (0, 0))) (hpg : g ≠ p) (hpq : p ≠ q) :
    Calls Try.prog 97 #[.pointer (some ⟨p, 0, none⟩), .pointer (some ⟨q, 0, none⟩)] w fun e w' => ∃ v1 v2, e = .returned (.bool true) ∧ View C g v1 x ∧ View C g v2 r ∧
      w'.heap[p]? = some (.cells #[v2] Tp (0, 0)) ∧ w'.heap[q]? = some (.cells #[v1] Tq (0, 0)) ∧ Fs [p, q] w w' := by
  refine (t8_yes ⟨p, 0, none⟩ ⟨q, 0, none⟩ w hr hg hV (cell_head hp) (frozen_of_heap hp) (cell_head hq) (frozen_of_heap hq) (fun e => hpg e.symm) (by simp [hpq])).mono ?_
  rintro e w1 ⟨v1, v2, rfl, hv1, hv2, rfl⟩
  exact ⟨v1, v2, rfl, hv1, hv2, heap_past ((heap_set_same hp).trans rfl) (fun e => hpq e.symm), (heap_set_same (heap_past hq hpq)).trans rfl, ((Fs.refl _ w).set p 0 _ (by simp)).set q 0 _ (by simp)⟩
theorem t8_not {C : Array Value} {p g : Nat} {T Tp : TypeId} {fr : Nat × Nat} {v : Value} {bs : List UInt8} (qo : Option Addr) (w : World) (hr : rdv 1 bs = none) (hg : w.heap[g]? = some (.cells C T fr)) (hV : View C g v bs)
    (hp : w.heap[p]? = some (.cells #[v] Tp (0, 0))) (hpg : g ≠ p) :
    Calls Try.prog 97 #[.pointer (some ⟨p, 0, none⟩), .pointer qo] w fun e w' => e = .returned (.bool false) ∧ Fs [p] w w' := by
  refine (t8_no ⟨p, 0, none⟩ qo w hr hg hV (cell_head hp) (frozen_of_heap hp) (fun e => hpg e.symm)).mono ?_
  rintro e w1 ⟨v2, rfl, rfl⟩
  exact ⟨rfl, (Fs.refl _ w).set p 0 _ (by simp)⟩

theorem t16_at {C : Array Value} {p q g : Nat} {T Tp Tq : TypeId} {fr : Nat × Nat} {v vq : Value} {bs x r : List UInt8} (w : World) (hr : rdv 2 bs = some (x, r)) (hg : w.heap[g]? = some (.cells C T fr)) (hV : View C g v bs)
    (hp : w.heap[p]? = some (.cells #[v] Tp (0, 0))) (hq : w.heap[q]? = some (.cells #[vq] Tq (0, 0))) (hpg : g ≠ p) (hpq : p ≠ q) :
    Calls Try.prog 102 #[.pointer (some ⟨p, 0, none⟩), .pointer (some ⟨q, 0, none⟩)] w fun e w' => ∃ v1 v2, e = .returned (.bool true) ∧ View C g v1 x ∧ View C g v2 r ∧
      w'.heap[p]? = some (.cells #[v2] Tp (0, 0)) ∧ w'.heap[q]? = some (.cells #[v1] Tq (0, 0)) ∧ Fs [p, q] w w' := by
  refine (t16_yes ⟨p, 0, none⟩ ⟨q, 0, none⟩ w hr hg hV (cell_head hp) (frozen_of_heap hp) (cell_head hq) (frozen_of_heap hq) (fun e => hpg e.symm) (by simp [hpq])).mono ?_
  rintro e w1 ⟨v1, v2, rfl, hv1, hv2, rfl⟩
  exact ⟨v1, v2, rfl, hv1, hv2, heap_past ((heap_set_same hp).trans rfl) (fun e => hpq e.symm), (heap_set_same (heap_past hq hpq)).trans rfl, ((Fs.refl _ w).set p 0 _ (by simp)).set q 0 _ (by simp)⟩
theorem t16_not {C : Array Value} {p g : Nat} {T Tp : TypeId} {fr : Nat × Nat} {v : Value} {bs : List UInt8} (qo : Option Addr) (w : World) (hr : rdv 2 bs = none) (hg : w.heap[g]? = some (.cells C T fr)) (hV : View C g v bs)
    (hp : w.heap[p]? = some (.cells #[v] Tp (0, 0))) (hpg : g ≠ p) :
    Calls Try.prog 102 #[.pointer (some ⟨p, 0, none⟩), .pointer qo] w fun e w' => e = .returned (.bool false) ∧ Fs [p] w w' := by
  refine (t16_no ⟨p, 0, none⟩ qo w hr hg hV (cell_head hp) (frozen_of_heap hp) (fun e => hpg e.symm)).mono ?_
  rintro e w1 ⟨v2, rfl, rfl⟩
  exact ⟨rfl, (Fs.refl _ w).set p 0 _ (by simp)⟩

theorem t24_at {C : Array Value} {p q g : Nat} {T Tp Tq : TypeId} {fr : Nat × Nat} {v vq : Value} {bs x r : List UInt8} (w : World) (hr : rdv 3 bs = some (x, r)) (hg : w.heap[g]? = some (.cells C T fr)) (hV : View C g v bs)
    (hp : w.heap[p]? = some (.cells #[v] Tp (0, 0))) (hq : w.heap[q]? = some (.cells #[vq] Tq (0, 0))) (hpg : g ≠ p) (hpq : p ≠ q) :
    Calls Try.prog 143 #[.pointer (some ⟨p, 0, none⟩), .pointer (some ⟨q, 0, none⟩)] w fun e w' => ∃ v1 v2, e = .returned (.bool true) ∧ View C g v1 x ∧ View C g v2 r ∧
      w'.heap[p]? = some (.cells #[v2] Tp (0, 0)) ∧ w'.heap[q]? = some (.cells #[v1] Tq (0, 0)) ∧ Fs [p, q] w w' := by
  refine (t24_yes ⟨p, 0, none⟩ ⟨q, 0, none⟩ w hr hg hV (cell_head hp) (frozen_of_heap hp) (cell_head hq) (frozen_of_heap hq) (fun e => hpg e.symm) (by simp [hpq])).mono ?_
  rintro e w1 ⟨v1, v2, rfl, hv1, hv2, rfl⟩
  exact ⟨v1, v2, rfl, hv1, hv2, heap_past ((heap_set_same hp).trans rfl) (fun e => hpq e.symm), (heap_set_same (heap_past hq hpq)).trans rfl, ((Fs.refl _ w).set p 0 _ (by simp)).set q 0 _ (by simp)⟩
theorem t24_not {C : Array Value} {p g : Nat} {T Tp : TypeId} {fr : Nat × Nat} {v : Value} {bs : List UInt8} (qo : Option Addr) (w : World) (hr : rdv 3 bs = none) (hg : w.heap[g]? = some (.cells C T fr)) (hV : View C g v bs)
    (hp : w.heap[p]? = some (.cells #[v] Tp (0, 0))) (hpg : g ≠ p) :
    Calls Try.prog 143 #[.pointer (some ⟨p, 0, none⟩), .pointer qo] w fun e w' => e = .returned (.bool false) ∧ Fs [p] w w' := by
  refine (t24_no ⟨p, 0, none⟩ qo w hr hg hV (cell_head hp) (frozen_of_heap hp) (fun e => hpg e.symm)).mono ?_
  rintro e w1 ⟨v2, rfl, rfl⟩
  exact ⟨rfl, (Fs.refl _ w).set p 0 _ (by simp)⟩

theorem ru8_at {C : Array Value} {p q g : Nat} {T Tp Tq : TypeId} {fr : Nat × Nat} {v vq : Value} {bs x r : List UInt8} (w : World) (hr : rd 1 bs = some (x, r)) (hg : w.heap[g]? = some (.cells C T fr)) (hV : View C g v bs)
    (hp : w.heap[p]? = some (.cells #[v] Tp (0, 0))) (hq : w.heap[q]? = some (.cells #[vq] Tq (0, 0))) (hpg : g ≠ p) (hpq : p ≠ q) :
    Calls Try.prog 98 #[.pointer (some ⟨p, 0, none⟩), .pointer (some ⟨q, 0, none⟩)] w fun e w' => ∃ v2, e = .returned (.bool true) ∧ View C g v2 r ∧
      w'.heap[p]? = some (.cells #[v2] Tp (0, 0)) ∧ w'.heap[q]? = some (.cells #[.int .u8 (be x : Nat)] Tq (0, 0)) ∧ Fs [p, q] w w' := by
  refine (ru8_yes ⟨p, 0, none⟩ ⟨q, 0, none⟩ w hr hg hV (cell_head hp) (frozen_of_heap hp) (cell_head hq) (frozen_of_heap hq) (fun e => hpg e.symm) (by simp [hpq])).mono ?_
  rintro e w1 ⟨v2, rfl, hv2, rfl⟩
  exact ⟨v2, rfl, hv2, heap_past ((heap_set_same hp).trans rfl) (fun e => hpq e.symm), (heap_set_same (heap_past hq hpq)).trans rfl, ((Fs.refl _ w).set p 0 _ (by simp)).set q 0 _ (by simp)⟩
theorem ru8_not {C : Array Value} {p g : Nat} {Tp : TypeId} {v : Value} {bs : List UInt8} (qo : Option Addr) (w : World) (hr : rd 1 bs = none) (hV : View C g v bs) (hp : w.heap[p]? = some (.cells #[v] Tp (0, 0))) :
    Calls Try.prog 98 #[.pointer (some ⟨p, 0, none⟩), .pointer qo] w fun e w' => e = .returned (.bool false) ∧ Fs [p] w w' := by
  refine (ru8_no ⟨p, 0, none⟩ qo w hr hV (cell_head hp)).mono ?_
  rintro e w1 ⟨rfl, rfl⟩
  exact ⟨rfl, Fs.refl _ _⟩

theorem ru16_at {C : Array Value} {p q g : Nat} {T Tp Tq : TypeId} {fr : Nat × Nat} {v vq : Value} {bs x r : List UInt8} (w : World) (hr : rd 2 bs = some (x, r)) (hg : w.heap[g]? = some (.cells C T fr)) (hV : View C g v bs)
    (hp : w.heap[p]? = some (.cells #[v] Tp (0, 0))) (hq : w.heap[q]? = some (.cells #[vq] Tq (0, 0))) (hpg : g ≠ p) (hpq : p ≠ q) :
    Calls Try.prog 95 #[.pointer (some ⟨p, 0, none⟩), .pointer (some ⟨q, 0, none⟩)] w fun e w' => ∃ v2, e = .returned (.bool true) ∧ View C g v2 r ∧
      w'.heap[p]? = some (.cells #[v2] Tp (0, 0)) ∧ w'.heap[q]? = some (.cells #[.int .u16 (be x : Nat)] Tq (0, 0)) ∧ Fs [p, q] w w' := by
  refine (ru16_yes ⟨p, 0, none⟩ ⟨q, 0, none⟩ w hr hg hV (cell_head hp) (frozen_of_heap hp) (cell_head hq) (frozen_of_heap hq) (fun e => hpg e.symm) (by simp [hpq])).mono ?_
  rintro e w1 ⟨v2, rfl, hv2, rfl⟩
  exact ⟨v2, rfl, hv2, heap_past ((heap_set_same hp).trans rfl) (fun e => hpq e.symm), (heap_set_same (heap_past hq hpq)).trans rfl, (((Fs.refl _ w).set p 0 _ (by simp)).set q 0 _ (by simp)).drew⟩
theorem ru16_not {C : Array Value} {p g : Nat} {Tp : TypeId} {v : Value} {bs : List UInt8} (qo : Option Addr) (w : World) (hr : rd 2 bs = none) (hV : View C g v bs) (hp : w.heap[p]? = some (.cells #[v] Tp (0, 0))) :
    Calls Try.prog 95 #[.pointer (some ⟨p, 0, none⟩), .pointer qo] w fun e w' => e = .returned (.bool false) ∧ Fs [p] w w' := by
  refine (ru16_no ⟨p, 0, none⟩ qo w hr hV (cell_head hp)).mono ?_
  rintro e w1 ⟨rfl, rfl⟩
  exact ⟨rfl, Fs.refl _ _⟩

theorem ru32_at {C : Array Value} {p q g : Nat} {T Tp Tq : TypeId} {fr : Nat × Nat} {v vq : Value} {bs x r : List UInt8} (w : World) (hr : rd 4 bs = some (x, r)) (hg : w.heap[g]? = some (.cells C T fr)) (hV : View C g v bs)
    (hp : w.heap[p]? = some (.cells #[v] Tp (0, 0))) (hq : w.heap[q]? = some (.cells #[vq] Tq (0, 0))) (hpg : g ≠ p) (hpq : p ≠ q) :
    Calls Try.prog 112 #[.pointer (some ⟨p, 0, none⟩), .pointer (some ⟨q, 0, none⟩)] w fun e w' => ∃ v2, e = .returned (.bool true) ∧ View C g v2 r ∧
      w'.heap[p]? = some (.cells #[v2] Tp (0, 0)) ∧ w'.heap[q]? = some (.cells #[.int .u32 (be x : Nat)] Tq (0, 0)) ∧ Fs [p, q] w w' := by
  refine (ru32_yes ⟨p, 0, none⟩ ⟨q, 0, none⟩ w hr hg hV (cell_head hp) (frozen_of_heap hp) (cell_head hq) (frozen_of_heap hq) (fun e => hpg e.symm) (by simp [hpq])).mono ?_
  rintro e w1 ⟨v2, rfl, hv2, rfl⟩
  exact ⟨v2, rfl, hv2, heap_past ((heap_set_same hp).trans rfl) (fun e => hpq e.symm), (heap_set_same (heap_past hq hpq)).trans rfl, (((Fs.refl _ w).set p 0 _ (by simp)).set q 0 _ (by simp)).drew⟩
theorem ru32_not {C : Array Value} {p g : Nat} {Tp : TypeId} {v : Value} {bs : List UInt8} (qo : Option Addr) (w : World) (hr : rd 4 bs = none) (hV : View C g v bs) (hp : w.heap[p]? = some (.cells #[v] Tp (0, 0))) :
    Calls Try.prog 112 #[.pointer (some ⟨p, 0, none⟩), .pointer qo] w fun e w' => e = .returned (.bool false) ∧ Fs [p] w w' := by
  refine (ru32_no ⟨p, 0, none⟩ qo w hr hV (cell_head hp)).mono ?_
  rintro e w1 ⟨rfl, rfl⟩
  exact ⟨rfl, Fs.refl _ _⟩

end Go.Proofs.Ytopcljikkdlffaa
namespace Go.Proofs.Ytopcljikkdlffaa
open Go.RowKit
open Go.Maps (Keyed int_keyed keyOf_int_mk)

/-- Block b is a map of the numbers that were seen. -/
def SeenAt (w : World) (b : Nat) (seen : List Nat) : Prop :=
  ∃ (n : Nat) (D : DataW Unit), w.ownsMap Try.prog 35 (plainElem Try.prog 4) b n D ∧ n ≤ seen.length ∧
    ∀ t : Nat, t < 65536 → D.atKey (.int .u16 (t : Int)) (.lit (.bool false)) = .lit (.bool (decide (t ∈ seen)))

theorem wf16 {t : Nat} (h : t < 65536) : (Lit.int .u16 (t : Int)).wf = true := by
  simp [Lit.wf, IntKind.min, IntKind.max, IntKind.signed, IntKind.bits]
  omega

set_option maxRecDepth 100000 in
theorem plainElem_bool_inv {H : Type} {v : Value} {z : DataW H × List MemPlace} (h : plainElem Try.prog 4 v = some z) : ∃ x, v = .bool x ∧ z = (.lit (.bool x), []) := by
  unfold plainElem at h
  rw [Try.underlying4] at h
  cases v <;> simp at h
  exact ⟨_, rfl, h.symm⟩

theorem zero_bool (w : World) : (zeroValue 4).run Try.prog w = .ok (.bool false) w := by
  simp [zeroValue, go_sem]
  rfl

theorem seen_new (w : World) : SeenAt (w.alloc (.map #[] 0)) w.heap.size [] :=
  ⟨0, .map [], World.ownsMap_made w _ _ _, Nat.le_refl _, fun t _ => by simp; rfl⟩

theorem seen_look {w : World} {b : Nat} {seen : List Nat} (h : SeenAt w b seen) (t : Nat) (ht : t < 65536) :
    (Instr.lookup 163 (.map (some b)) (.int .u16 (t : Int)) false).run Try.prog w = .ok (.bool (decide (t ∈ seen))) w := by
  obtain ⟨n, D, ho, _, hD⟩ := h
  obtain ⟨v, ps, hrun, hv⟩ := ho.lookup (int_keyed Try.underlying35) Try.underlying163 (z := .bool false) (by
      exact zero_bool w) (plainElem_bool Try.underlying4 false) (keyOf_int_mk Try.underlying35 (wf16 ht))
  obtain ⟨x, rfl, hx⟩ := plainElem_bool_inv hv
  rw [hD t ht] at hx
  simp only [Prod.mk.injEq, DataW.lit.injEq, Lit.bool.injEq] at hx
  rw [hrun, hx.1]

theorem seen_put {w : World} {b : Nat} {seen : List Nat} (h : SeenAt w b seen) (t : Nat) (ht : t < 65536) (hl : seen.length < 16777216) :
    ∃ w', (Instr.mapUpdate 163 (.map (some b)) (.int .u16 (t : Int)) (.bool true)).run Try.prog w = .ok () w' ∧ SeenAt w' b (t :: seen) ∧ Fs [b] w w' := by
  obtain ⟨n, D, ho, hn, hD⟩ := h
  obtain ⟨w', hrun, ho', hg⟩ := ho.update (int_keyed Try.underlying35) Try.underlying163 (by unfold maxLen; omega) (keyOf_int_mk Try.underlying35 (wf16 ht)) (plainElem_bool Try.underlying4 true)
  refine ⟨w', hrun, ⟨n + 1, _, ho', by simp; omega, fun t' ht' => ?_⟩, ⟨hg.os, hg.tape, hg.output, hg.size, fun k hk hm => hg.block k hk (fun e => hm (by simpa using e))⟩⟩
  by_cases e : t' = t
  · subst e
    rw [Maps.atKey_put_same ho.isMap (by trivial)]
    simp
  · rw [Maps.atKey_put_other (by simp; omega), hD t' ht']
    simp [e]

theorem SeenAt.fs {w w' : World} {b : Nat} {seen : List Nat} {l : List Nat} (h : SeenAt w b seen) (hf : Fs l w w') (hb : b ∉ l) : SeenAt w' b seen := by
  obtain ⟨n, D, ⟨es, clock, hh, r⟩, r2⟩ := h
  exact ⟨n, D, ⟨es, clock, (hf.keep b (Array.getElem?_eq_some_iff.1 hh).1 hb).trans hh, r⟩, r2⟩

theorem SeenAt.map {w : World} {b : Nat} {seen : List Nat} (h : SeenAt w b seen) : ∃ es k, w.heap[b]? = some (.map es k) := by
  obtain ⟨n, D, ⟨es, clock, hh, r⟩, r2⟩ := h
  exact ⟨es, clock, hh⟩

end Go.Proofs.Ytopcljikkdlffaa
