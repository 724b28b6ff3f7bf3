/- MarshalCertificate13 of package tls and of package impl, and SameCertificate13 of the reference. No statement of the seat is proved here. -/
import Derived.Test.YtopcljikkdlffaaCn
import Derived.Test.YtopcljikkdlffaaCf
namespace Go.Proofs.Ytopcljikkdlffaa
open Go.RowKit

theorem c13_okay {bs : List UInt8} {f : C13} (h : c13Read bs = some f) (hl : bs.length ≤ 60000) : C13Ok f := by
  obtain ⟨_, hw, hs, h0⟩ := c13_again h hl
  cases hc : f.certs with
  | nil =>
    obtain ⟨h1, h2⟩ := h0 hc
    exact ⟨⟨(fun x hx => by rw [h2] at hx; cases hx), by rw [h2]; simp, by rw [h1, h2]; decide⟩, (fun c hx => by rw [hc] at hx; cases hx), by rw [hc]; simp, by omega⟩
  | cons c L =>
    have e : (wcerts f).length = 3 + c.length + 2 + ((w5 f.staple).length + (w18 f.stamps).length) + (wrest L).length := by
      unfold wcerts; rw [hc]; simp [en_length]; omega
    have hr := wrest_many L
    have hm := vecs_many (k := 2) (by omega) f.stamps
    have h5 := w5_len f.staple
    have h18 := w18_len f.stamps
    have hv : (vecs 2 f.stamps).length ≤ (w18 f.stamps).length := by
      by_cases hz : f.stamps = []
      · rw [hz]; simp [vecs]
      · have := h18.2 hz; omega
    have ht : f.staple.length ≤ (w5 f.staple).length := by
      by_cases hz : f.staple = []
      · rw [hz]; simp
      · have := h5.2 hz; omega
    exact ⟨⟨fun x hx => by have := (hs.1 x hx).2; omega, by omega, by omega⟩, fun x hx => by have := hs.2.2 x hx; omega, by rw [hc]; simp only [List.length_cons]; omega, by omega⟩

theorem srcL_of {w : World} {base B : Nat} {C : Array Value} {g : Nat} {T : TypeId} {fr : Nat × Nat} {v : Value} {L : List (List UInt8)} (h : FRel w base C g (.own 22 1 L.length (ShowL C g L)) v) (hg : w.heap[g]? = some (.cells C T fr)) (hB : w.heap.size ≤ B) :
    SrcL w B v L ∧ (v = .slice none 0 0 ↔ L = []) := by
  obtain ⟨us, hown, hR⟩ := h
  rcases hown.2 with ⟨rfl, hn⟩ | ⟨p, cap, cur, rfl, hbp, hh, hnc, _, hcs, htake⟩
  · have e := List.length_eq_zero_iff.1 hn
    exact ⟨.inl ⟨rfl, e⟩, by simp [e]⟩
  · refine ⟨.inr ⟨p, cap, cur, rfl, by have := lt_of_heap hh; omega, hh, fun j s hj => ?_⟩, by simp; intro e; have := hR.1 e; cases this⟩
    obtain ⟨u, hu, hv⟩ := hR.2 j s hj
    refine ⟨u, ?_, (vn_src hv hg).keep hB (fun _ _ => rfl)⟩
    rw [← htake, List.getElem?_take] at hu
    split at hu
    · rw [← Array.getElem?_toList]; exact hu
    · cases hu

theorem srcB_of {w : World} {base B : Nat} {C : Array Value} {g : Nat} {T : TypeId} {fr : Nat × Nat} {v : Value} {l : List UInt8} (h : FRel w base C g (.vz l) v) (hg : w.heap[g]? = some (.cells C T fr)) (hB : w.heap.size ≤ B) :
    SrcB w B v l ∧ (v = .slice none 0 0 ↔ l = []) := by
  rcases h with ⟨rfl, rfl⟩ | ⟨hl, hv⟩
  · exact ⟨.inl ⟨rfl, rfl⟩, by simp⟩
  · refine ⟨(vn_src (.inr hv) hg).keep hB (fun _ _ => rfl), ?_⟩
    obtain ⟨o, c, rfl, _⟩ := hv
    simp [hl]

theorem SrcL.lst {w : World} {base : Nat} {v : Value} {L : List (List UInt8)} (h : SrcL w base v L) : LstB w base v L := by
  rcases h with h | ⟨p, cap, cur, rfl, hlt, hh, hc⟩
  · exact .inl h
  · refine .inr ⟨_, cap, rfl, fun _ => hlt, fun j s hj => ?_⟩
    obtain ⟨u, hu, hs⟩ := hc j s hj
    refine ⟨u, ?_, hs⟩
    rw [add_plain, Nat.zero_add, cell_of_heap hh]
    exact hu

theorem SrcL.keep {w w' : World} {base base' : Nat} {v : Value} {L : List (List UInt8)} (h : SrcL w base v L) (hb : base ≤ base') (hk : ∀ k, k < base → w'.heap[k]? = w.heap[k]?) : SrcL w' base' v L := by
  rcases h with h | ⟨p, cap, cur, e, hlt, hh, hc⟩
  · exact .inl h
  · refine .inr ⟨p, cap, cur, e, by omega, (hk p hlt).trans hh, fun j s hj => ?_⟩
    obtain ⟨u, hu, hs⟩ := hc j s hj
    exact ⟨u, hu, hs.keep hb hk⟩

set_option maxRecDepth 100000 in
set_option maxHeartbeats 1000000 in
theorem c13_marshal {m : Nat} {f : C13} (w : World) (hok : C13Ok f) (hm : MsgAt w w.heap.size m f) :
    Calls Try.prog 86 #[.pointer (some ⟨m, 0, none⟩)] w fun e w' => ∃ v, e = .returned (.tuple #[v, .nilIface]) ∧ w'.ownsRow w.heap.size 5 1 v (w13 f).length ((w13 f).map by8) ∧ Below w.heap.size w w' := by
  have HM := Lib.hid hm
  have hml : m < w.heap.size := by obtain ⟨_, _, _, hh, _⟩ := hm; exact lt_of_heap hh
  have HOK := Lib.hid hok
  have hwl := hok.w
  clear hm hok
  go_enter Try.func86, Try.ntmps86
  go_wp2_with fail
  have HB1 := Lib.hid (bat_new (w.alloc (.cells #[.pointer (some ⟨m, 0, none⟩)] 132)) (base := w.heap.size) (by simp))
  rw [World.size_alloc] at HB1
  refine (add8_ok (base := w.heap.size) 11 _ (by omega) (by omega) HB1.out (by simp)).mono ?_
  rintro e w2 ⟨rfl, hB2, hF2⟩
  have hx2 := hF2.other (i := w.heap.size) ((Below.heap_alloc _ _ _ (by simp)).trans (heap_alloc_new _ _)) (by decide) (by omega)
  have hk2 : ∀ k, k < w.heap.size → w2.heap[k]? = w.heap[k]? := fun k hk => (hF2.keep k (by simp; omega) (by omega) (.inl hk)).trans ((Below.heap_alloc _ _ _ (by simp; omega)).trans (Below.heap_alloc _ _ _ hk))
  have hm2 : MsgAt w2 w.heap.size m f := by
    obtain ⟨v0, v1, v2, hh, h0, h1, h1n, h2, h2n⟩ := HM.out
    exact ⟨v0, v1, v2, (hk2 m hml).trans hh, h0.keep (Nat.le_refl _) hk2, h1.keep (Nat.le_refl _) hk2, h1n, h2.keep (Nat.le_refl _) hk2, h2n⟩
  have hsz := hF2.size
  simp only [World.size_alloc] at hsz
  have HX2 := Lib.hid hx2
  have HM2 := Lib.hid hm2
  have HB2 : Hid (BAt w2 w.heap.size (w.heap.size + 1) 0 0 (.pointer none) (en 1 11)) := Lib.hid (by simpa using hB2)
  have HF2 := Lib.hid hF2
  have ho : (en 1 0 ++ en 3 (wcerts f).length ++ wcerts f).length = 1 + (3 + (wcerts f).length) := by simp [en_length] <;> omega
  have HO := Lib.hid ho
  clear hx2 hm2 hB2 hF2 HB1 hk2 ho
  go_wp2_with fail
  refine (lp3_new (out := en 1 0 ++ en 3 (wcerts f).length ++ wcerts f) w2 (by rw [HO.out]; omega) HB2.out (by rw [HO.out]; simp [en_length]; omega) (enter_of Try.func107 (by kernel_rfl) (by kernel_rfl)) (fun q hq => em_107 w2 HOK.out HX2.out HM2.out (by omega) (by omega) (by omega))).mono ?_
  rintro e w3 ⟨q, rfl, hB3, hfl, hq, hF3⟩
  have HB3 : Hid (BAt w3 w.heap.size (w.heap.size + 1) 0 0 (.pointer (some ⟨q, 0, none⟩)) (w13 f)) := Lib.hid (by
    unfold w13
    rw [← HO.out]
    exact hB3)
  have HF3 : Hid (Below w.heap.size w w3) := by
    have h1 := (HF2.out.trans hF3).below (by simp; omega) (by omega)
    exact (((Below.refl _ w).alloc (Nat.le_refl _) _).alloc (by simp) _).trans h1
  clear hB3 hF3 hfl
  go_wp2_with fail
  refine (bytes_ok w3 HB3.out).mono ?_
  rintro e w4 ⟨v, rfl, hown, rfl⟩
  have HOW := Lib.hid hown
  clear hown
  go_wp2_with fail
  go_ret2
  exact ⟨v, rfl, HOW.out, HF3.out.drew⟩

/-- The fields by value. -/
def C13Val (w : World) (base : Nat) (f : C13) (D : Array Value) : Prop :=
  ∃ v0 v1 v2, D = #[v0, .bool (decide (f.staple ≠ [])), .bool (decide (f.stamps ≠ [])), v1, v2] ∧ SrcL w base v0 f.certs ∧ SrcB w base v1 f.staple ∧ (v1 = .slice none 0 0 ↔ f.staple = []) ∧ SrcL w base v2 f.stamps ∧ (v2 = .slice none 0 0 ↔ f.stamps = [])

theorem C13Val.keep {w w' : World} {base base' : Nat} {f : C13} {D : Array Value} (h : C13Val w base f D) (hb : base ≤ base') (hk : ∀ k, k < base → w'.heap[k]? = w.heap[k]?) : C13Val w' base' f D := by
  obtain ⟨v0, v1, v2, e, h0, h1, h1n, h2, h2n⟩ := h
  exact ⟨v0, v1, v2, e, h0.keep hb hk, h1.keep hb hk, h1n, h2.keep hb hk, h2n⟩

set_option maxRecDepth 100000 in
set_option maxHeartbeats 1000000 in
theorem c13m_tls {f : C13} {D : Array Value} (w : World) (hok : C13Ok f) (hD : C13Val w w.heap.size f D) :
    Calls Try.prog 60 #[.agg D] w fun e w' => ∃ v, e = .returned (.tuple #[v, .nilIface]) ∧ w'.ownsRow w.heap.size 5 1 v (w13 f).length ((w13 f).map by8) ∧ Below w.heap.size w w' := by
  obtain ⟨v0, v1, v2, rfl, h0, h1, h1n, h2, h2n⟩ := hD
  obtain ⟨a0, k0, rfl, _⟩ := h0.len
  obtain ⟨a1, k1, rfl⟩ := h1.len
  obtain ⟨a2, k2, rfl, _⟩ := h2.len
  obtain ⟨b3, hb3⟩ : ∃ b, b = decide (f.staple ≠ []) := ⟨_, rfl⟩
  obtain ⟨b4, hb4⟩ : ∃ b, b = decide (f.stamps ≠ []) := ⟨_, rfl⟩
  rw [← hb3, ← hb4]
  obtain ⟨W, hW⟩ : ∃ W, W = (w.alloc (.cells #[.slice a0 f.certs.length k0, .bool b3, .bool b4, .slice a1 f.staple.length k1, .slice a2 f.stamps.length k2] 93)).alloc (.cells #[.slice a0 f.certs.length k0, .slice a1 f.staple.length k1, .slice a2 f.stamps.length k2, .bool b3, .bool b4] 136) := ⟨_, rfl⟩
  have hWs : W.heap.size = w.heap.size + 2 := by rw [hW]; simp
  have hWm : W.heap[w.heap.size + 1]? = some (.cells #[.slice a0 f.certs.length k0, .slice a1 f.staple.length k1, .slice a2 f.stamps.length k2, .bool b3, .bool b4] 136 (0, 0)) := by
    have h := heap_alloc_new (w.alloc (.cells #[.slice a0 f.certs.length k0, .bool b3, .bool b4, .slice a1 f.staple.length k1, .slice a2 f.stamps.length k2] 93)) (.cells #[.slice a0 f.certs.length k0, .slice a1 f.staple.length k1, .slice a2 f.stamps.length k2, .bool b3, .bool b4] 136)
    rw [World.size_alloc] at h
    rw [hW]; exact h
  have hk : ∀ k, k < w.heap.size → W.heap[k]? = w.heap[k]? := fun k hk => by
    rw [hW]; exact (Below.heap_alloc _ _ _ (by simp; omega)).trans (Below.heap_alloc _ _ _ hk)
  have HMM : Hid (MsgAt W W.heap.size (w.heap.size + 1) f) := Lib.hid ⟨_, _, _, by rw [← hb3, ← hb4]; exact hWm, h0.keep (by omega) hk, h1.keep (by omega) hk, h1n, h2.keep (by omega) hk, h2n⟩
  have HBE : Hid (Below w.heap.size w W) := Lib.hid (by rw [hW]; exact ((Below.refl _ w).alloc (Nat.le_refl _) _).alloc (by simp) _)
  have HW := Lib.hid hW
  have HWS := Lib.hid hWs
  clear h0 h1 h1n h2 h2n hW hWs hWm hk hb3 hb4
  go_enter Try.func60, Try.ntmps60
  go_wp2_with fail
  rw [← HW.out]
  refine (c13_marshal W hok HMM.out).mono ?_
  rintro e w1 ⟨v, rfl, hown, hbel⟩
  have HO := Lib.hid hown
  have HB := Lib.hid hbel
  clear hown hbel
  go_wp2_with fail
  go_ret2
  exact ⟨v, rfl, ownsRow_mono HO.out (by have := HWS.out; omega), HBE.out.trans (HB.out.mono (by have := HWS.out; omega))⟩

set_option maxRecDepth 100000 in
set_option maxHeartbeats 1000000 in
theorem c13m_impl {f : C13} {D : Array Value} (w : World) (hok : C13Ok f) (hD : C13Val w w.heap.size f D) :
    Calls Try.prog 27 #[.agg D] w fun e w' => ∃ v, e = .returned (.tuple #[v, .bool true]) ∧ w'.ownsRow w.heap.size 5 1 v (w13 f).length ((w13 f).map by8) ∧ Below w.heap.size w w' := by
  have HD : Hid (C13Val (w.alloc (.cells D 43)) (w.alloc (.cells D 43)).heap.size f D) := Lib.hid (hD.keep (by simp) fun k hk => Below.heap_alloc _ _ _ hk)
  obtain ⟨v0, v1, v2, rfl, h0, h1, _, h2, _⟩ := hD
  obtain ⟨a0, k0, rfl, _⟩ := h0.len
  obtain ⟨a1, k1, rfl⟩ := h1.len
  obtain ⟨a2, k2, rfl, _⟩ := h2.len
  obtain ⟨b3, hb3⟩ : ∃ b, b = decide (f.staple ≠ []) := ⟨_, rfl⟩
  obtain ⟨b4, hb4⟩ : ∃ b, b = decide (f.stamps ≠ []) := ⟨_, rfl⟩
  rw [← hb3, ← hb4] at HD ⊢
  clear h0 h1 h2 hb3 hb4
  go_enter Try.func27, Try.ntmps27
  go_wp2_with fail
  refine (c13m_tls _ hok HD.out).mono ?_
  rintro e w1 ⟨v, rfl, hown, hbel⟩
  have HO := Lib.hid hown
  have HB := Lib.hid hbel
  clear hown hbel
  go_wp2_with fail
  go_quiet (fail)
  go_wp2_with fail
  go_ret2
  exact ⟨v, rfl, ownsRow_mono HO.out (by simp), Below_drewN (((Below.refl _ w).alloc (Nat.le_refl _) _).trans (HB.out.mono (by simp))) nq⟩

set_option maxRecDepth 100000 in
set_option maxHeartbeats 2000000 in
/-- Two that show the same. -/
theorem c13_same {f : C13} {D E : Array Value} {base : Nat} (w : World) (hb : base ≤ w.heap.size) (hD : C13Val w base f D) (hE : C13Val w base f E) (h1 : f.certs.length ≤ 2147483647) (h2 : f.stamps.length ≤ 2147483647) :
    Calls Try.prog 28 #[.agg D, .agg E] w fun e w' => e = .returned (.bool true) ∧ Below w.heap.size w w' := by
  obtain ⟨W, hW⟩ : ∃ W, W = (w.alloc (.cells D 43)).alloc (.cells E 43) := ⟨_, rfl⟩
  have hk : ∀ k, k < base → W.heap[k]? = w.heap[k]? := fun k hk => by
    rw [hW]; exact (Below.heap_alloc _ _ _ (by simp; omega)).trans (Below.heap_alloc _ _ _ (by omega))
  have HD := Lib.hid (hD.keep (Nat.le_refl _) hk)
  have HE := Lib.hid (hE.keep (Nat.le_refl _) hk)
  have HBE : Hid (Below w.heap.size w W) := Lib.hid (by rw [hW]; exact ((Below.refl _ w).alloc (Nat.le_refl _) _).alloc (by simp) _)
  obtain ⟨v0, v1, v2, e1, _⟩ := id hD
  obtain ⟨u0, u1, u2, e2, _⟩ := id hE
  obtain ⟨b3, hb3⟩ : ∃ b, b = decide (f.staple ≠ []) := ⟨_, rfl⟩
  obtain ⟨b4, hb4⟩ : ∃ b, b = decide (f.stamps ≠ []) := ⟨_, rfl⟩
  obtain ⟨v0', v1', v2', e1', p0, p1, _, p2, _⟩ := HD.out
  obtain ⟨u0', u1', u2', e2', q0, q1, _, q2, _⟩ := HE.out
  rw [← hb3, ← hb4] at e1 e2 e1' e2'
  subst e1
  subst e2
  simp only [Array.mk.injEq, List.cons.injEq, and_true, true_and] at e1' e2'
  obtain ⟨rfl, rfl, rfl⟩ := e1'
  obtain ⟨rfl, rfl, rfl⟩ := e2'
  have P0 := Lib.hid p0.lst
  have P1 := Lib.hid p1.src
  have P2 := Lib.hid p2.lst
  have Q0 := Lib.hid q0.lst
  have Q1 := Lib.hid q1.src
  have Q2 := Lib.hid q2.lst
  have HW := Lib.hid hW
  obtain ⟨a0, k0, rfl, _⟩ := p0.len
  obtain ⟨a1, k1, rfl⟩ := p1.len
  obtain ⟨a2, k2, rfl, _⟩ := p2.len
  obtain ⟨c0, l0, rfl, _⟩ := q0.len
  obtain ⟨c1, l1, rfl⟩ := q1.len
  obtain ⟨c2, l2, rfl, _⟩ := q2.len
  have hWd : W.heap[w.heap.size]? = some (.cells #[.slice a0 f.certs.length k0, .bool b3, .bool b4, .slice a1 f.staple.length k1, .slice a2 f.stamps.length k2] 43 (0, 0)) := by rw [hW]; exact heap_push (heap_alloc_new _ _)
  have hWe : W.heap[w.heap.size + 1]? = some (.cells #[.slice c0 f.certs.length l0, .bool b3, .bool b4, .slice c1 f.staple.length l1, .slice c2 f.stamps.length l2] 43 (0, 0)) := by
    have h := heap_alloc_new (w.alloc (.cells #[.slice a0 f.certs.length k0, .bool b3, .bool b4, .slice a1 f.staple.length k1, .slice a2 f.stamps.length k2] 43)) (.cells #[.slice c0 f.certs.length l0, .bool b3, .bool b4, .slice c1 f.staple.length l1, .slice c2 f.stamps.length l2] 43)
    rw [World.size_alloc] at h
    rw [hW]; exact h
  have d1 : W.cell? ⟨w.heap.size, 1, none⟩ = some (.bool b3) := by rw [cell_of_heap hWd]; rfl
  have d2 : W.cell? ⟨w.heap.size, 2, none⟩ = some (.bool b4) := by rw [cell_of_heap hWd]; rfl
  have d3 : W.cell? ⟨w.heap.size, 3, none⟩ = some (.slice a1 f.staple.length k1) := by rw [cell_of_heap hWd]; rfl
  have d4 : W.cell? ⟨w.heap.size, 4, none⟩ = some (.slice a2 f.stamps.length k2) := by rw [cell_of_heap hWd]; rfl
  have e1 : W.cell? ⟨w.heap.size + 1, 1, none⟩ = some (.bool b3) := by rw [cell_of_heap hWe]; rfl
  have e2 : W.cell? ⟨w.heap.size + 1, 2, none⟩ = some (.bool b4) := by rw [cell_of_heap hWe]; rfl
  have e3 : W.cell? ⟨w.heap.size + 1, 3, none⟩ = some (.slice c1 f.staple.length l1) := by rw [cell_of_heap hWe]; rfl
  have e4 : W.cell? ⟨w.heap.size + 1, 4, none⟩ = some (.slice c2 f.stamps.length l2) := by rw [cell_of_heap hWe]; rfl
  clear p0 p1 p2 q0 q1 q2 hD hE HD HE hW hk hb3 hb4 hWd hWe
  go_enter Try.func28, Try.ntmps28
  go_wp2_with fail
  rw [← HW.out]
  refine (sameLists_ok W P0.out Q0.out h1).mono ?_
  rintro e w1 ⟨rfl, rfl⟩
  go_wp2_with fail
  refine (same_ok w1 P1.out Q1.out).mono ?_
  rintro e w2 ⟨rfl, rfl⟩
  simp only [decide_true]
  go_wp2_with fail
  refine (sameLists_ok w2 P2.out Q2.out h2).mono ?_
  rintro e w3 ⟨rfl, rfl⟩
  go_wp2_with fail
  go_ret
  exact ⟨rfl, HBE.out⟩

end Go.Proofs.Ytopcljikkdlffaa
