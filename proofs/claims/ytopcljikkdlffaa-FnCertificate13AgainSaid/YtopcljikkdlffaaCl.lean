/- A Certificate of TLS 1.3 is made by package tls: its continuations. No statement of the seat is proved here. -/
import Derived.Test.YtopcljikkdlffaaCk
namespace Go.Proofs.Ytopcljikkdlffaa
open Go.RowKit

theorem SrcB.ks {w w' : World} {base q : Nat} {v : Value} {s : List UInt8} (h : SrcB w base v s) (hk : Ks base q w w') (hq : base ≤ q) : SrcB w' base v s := by
  rcases h with h | ⟨ad, cap, e, hlt, hc⟩
  · exact .inl h
  · refine .inr ⟨ad, cap, e, hlt, fun j u hu => ?_⟩
    have hs : s ≠ [] := by rintro rfl; simp at hu
    have hb := hlt hs
    have hcj := hc j u hu
    have hl := World.block_lt_of_cell? w _ hcj
    rw [add_block] at hl
    have hkeep := hk.keep ad.block hl (by omega) (.inl hb) (fun ⟨cs, fr, hcs, h8⟩ => by
      have e8 : ∃ k : Int, u = .int .u8 k := by
        rw [List.getElem?_map] at hu
        obtain ⟨x, _, rfl⟩ := Option.map_eq_some_iff.1 hu
        exact ⟨_, rfl⟩
      obtain ⟨k, rfl⟩ := e8
      unfold World.cell? at hcj
      rw [add_block, hcs] at hcj
      simp only at hcj
      split at hcj
      · cases hcj
      · exact h8 _ _ hcj)
    rw [← hcj]
    exact World.cell?_of_block (by rw [add_block]; exact hkeep)

/-- A row of slices of bytes, below base. -/
def SrcL (w : World) (base : Nat) (v : Value) (L : List (List UInt8)) : Prop :=
  (v = .slice none 0 0 ∧ L = []) ∨ ∃ h cap cur, v = .slice (some ⟨h, 0, none⟩) L.length cap ∧ h < base ∧ w.heap[h]? = some (.cells cur 22 (0, 0)) ∧ ∀ (j : Nat) (s : List UInt8), L[j]? = some s → ∃ u, cur[j]? = some u ∧ SrcB w base u s

theorem SrcL.ks {w w' : World} {base q : Nat} {v : Value} {L : List (List UInt8)} (h : SrcL w base v L) (hk : Ks base q w w') (hq : base ≤ q) : SrcL w' base v L := by
  rcases h with h | ⟨h, cap, cur, e, hlt, hh, hc⟩
  · exact .inl h
  · refine .inr ⟨h, cap, cur, e, hlt, hk.other hh (by decide) (by omega), fun j s hj => ?_⟩
    obtain ⟨u, hu, hs⟩ := hc j s hj
    exact ⟨u, hu, hs.ks hk hq⟩

theorem SrcL.len {w : World} {base : Nat} {v : Value} {L : List (List UInt8)} (h : SrcL w base v L) : ∃ ad cap, v = .slice ad L.length cap ∧ (0 < L.length → ∃ x, ad = some ⟨x, 0, none⟩) ∧ (ad.isNone = true ↔ v = .slice none 0 0) := by
  rcases h with ⟨rfl, rfl⟩ | ⟨h, cap, cur, rfl, _⟩
  · exact ⟨none, 0, rfl, fun h => by simp at h, by simp⟩
  · exact ⟨some _, cap, rfl, fun _ => ⟨_, rfl⟩, by simp⟩

theorem SrcL.at {w : World} {base len cap x : Nat} {L : List (List UInt8)} (h : SrcL w base (.slice (some ⟨x, 0, none⟩) len cap) L) {j : Nat} (hj : j < L.length) : ∃ u, w.cell? ⟨x, j, none⟩ = some u ∧ SrcB w base u L[j] := by
  rcases h with ⟨h, _⟩ | ⟨h, cap, cur, e, _, hh, hc⟩
  · cases h
  · simp only [Value.slice.injEq, Option.some.injEq, Addr.mk.injEq, and_true] at e
    obtain ⟨rfl, _, _⟩ := e
    obtain ⟨u, hu, hs⟩ := hc j _ (List.getElem?_eq_getElem hj)
    exact ⟨u, by rw [cell_of_heap hh]; exact hu, hs⟩

/-- A continuation that adds bytes out of a captured variable. -/
theorem em_var147 {base q x : Nat} {v : Value} {s : List UInt8} (w : World) (hx : w.heap[x]? = some (.cells #[v] 22 (0, 0))) (hs : SrcB w base v s) (hxq : x ≠ q) (hbq : base ≤ q) :
    Emits base q 147 #[.pointer (some ⟨x, 0, none⟩)] s w := by
  intro c off pl bs w' hk hf hB hl
  have c1 := cell_head (hk.other hx (by decide) hxq)
  have HS := Lib.hid (hs.ks hk hbq).src
  have HB := Lib.hid hB
  clear hk hf hB hx hs
  simp only [List.append_toArray, List.cons_append, List.nil_append]
  go_enter Try.func147, Try.ntmps147
  go_wp2_with fail
  refine (addb_ok w' HB.out HS.out hl).mono ?_
  rintro e w1 ⟨rfl, hb, hfr⟩
  go_wp2_with fail
  go_end0
  exact ⟨rfl, hb, hfr⟩

theorem em_var153 {base q x : Nat} {v : Value} {s : List UInt8} (w : World) (hx : w.heap[x]? = some (.cells #[v] 22 (0, 0))) (hs : SrcB w base v s) (hxq : x ≠ q) (hbq : base ≤ q) :
    Emits base q 153 #[.pointer (some ⟨x, 0, none⟩)] s w := by
  intro c off pl bs w' hk hf hB hl
  have c1 := cell_head (hk.other hx (by decide) hxq)
  have HS := Lib.hid (hs.ks hk hbq).src
  have HB := Lib.hid hB
  clear hk hf hB hx hs
  simp only [List.append_toArray, List.cons_append, List.nil_append]
  go_enter Try.func153, Try.ntmps153
  go_wp2_with fail
  refine (addb_ok w' HB.out HS.out hl).mono ?_
  rintro e w1 ⟨rfl, hb, hfr⟩
  go_wp2_with fail
  go_end0
  exact ⟨rfl, hb, hfr⟩

/-- A Certificate in block p. -/
def CrtAt (w : World) (base p : Nat) (f : C13) : Prop :=
  ∃ v0 v1 v2, w.heap[p]? = some (.cells #[v0, v1, v2] 134 (0, 0)) ∧ SrcL w base v0 f.certs ∧ SrcB w base v1 f.staple ∧ (v1 = .slice none 0 0 ↔ f.staple = []) ∧ SrcL w base v2 f.stamps ∧ (v2 = .slice none 0 0 ↔ f.stamps = [])

theorem CrtAt.ks {w w' : World} {base q p : Nat} {f : C13} (h : CrtAt w base p f) (hk : Ks base q w w') (hq : base ≤ q) (hp : p ≠ q) : CrtAt w' base p f := by
  obtain ⟨v0, v1, v2, hh, h0, h1, h1n, h2, h2n⟩ := h
  exact ⟨v0, v1, v2, hk.other hh (by decide) hp, h0.ks hk hq, h1.ks hk hq, h1n, h2.ks hk hq, h2n⟩

theorem em_150 {base q p : Nat} {f : C13} (w : World) (hp : CrtAt w base p f) (hpq : p ≠ q) (hbq : base ≤ q) : Emits base q 150 #[.pointer (some ⟨p, 0, none⟩)] f.staple w := by
  intro c off pl bs w' hk hf hB hl
  obtain ⟨v0, v1, v2, hh, _, h1, _⟩ := hp.ks hk hbq hpq
  have c1 : w'.cell? ⟨p, 1, none⟩ = some v1 := by rw [cell_of_heap hh]; rfl
  have HS := Lib.hid h1.src
  have HB := Lib.hid hB
  clear hk hf hB hp h1 hh
  simp only [List.append_toArray, List.cons_append, List.nil_append]
  go_enter Try.func150, Try.ntmps150
  go_wp2_with fail
  refine (addb_ok w' HB.out HS.out hl).mono ?_
  rintro e w1 ⟨rfl, hb, hfr⟩
  go_wp2_with fail
  go_end0
  exact ⟨rfl, hb, hfr⟩

theorem em_149 {base q p : Nat} {f : C13} (w : World) (hp : CrtAt w base p f) (hpq : p ≠ q) (hbq : base ≤ q) (hst : f.staple.length < 16777216) :
    Emits base q 149 #[.pointer (some ⟨p, 0, none⟩)] (en 1 1 ++ en 3 f.staple.length ++ f.staple) w := by
  intro c off pl bs w' hk hf hB hl
  have HP := Lib.hid (hp.ks hk hbq hpq)
  have HB := Lib.hid hB
  have HF := Lib.hid hf
  have hlen : bs.length + (1 + (3 + f.staple.length)) ≤ 70368744177664 := by simp [en_length] at hl; omega
  clear hk hf hB hp hl
  simp only [List.append_toArray, List.cons_append, List.nil_append]
  go_enter Try.func149, Try.ntmps149
  go_wp2_with fail
  refine (add8_ok 1 w' (by omega) (by omega) HB.out (by omega)).mono ?_
  rintro e w1 ⟨rfl, hb, hfr⟩
  have HB1 := Lib.hid hb
  have HFR1 := Lib.hid hfr
  have hK : Ks base q w' w1 := Ks.of_fr hfr (.inr HB.out.isBld)
  have HP1 := Lib.hid (HP.out.ks hK hbq hpq)
  have HF1 := Lib.hid (hfr.flag HF.out (HB.out.ne_flag HF.out))
  clear hb hfr hK
  go_wp2_with fail
  refine (lp3_flag (out := f.staple) w1 hst HB1.out HF1.out (by simp [en_length]; omega) (enter_of Try.func150 (by kernel_rfl) (by kernel_rfl)) (em_150 w1 HP1.out hpq hbq)).mono ?_
  rintro e w2 ⟨rfl, hb2, hfr2⟩
  have HB2 := Lib.hid hb2
  have HFR2 := Lib.hid hfr2
  clear hb2 hfr2
  go_wp2_with fail
  go_end0
  refine ⟨rfl, ?_, HFR1.out.trans HFR2.out⟩
  have h : BAt w2 base c off pl (.pointer (some ⟨q, 0, none⟩)) (bs ++ en 1 1 ++ en 3 f.staple.length ++ f.staple) := HB2.out
  simpa only [List.append_assoc] using h

set_option maxRecDepth 100000 in
set_option maxHeartbeats 1000000 in
theorem em_152 {base q p : Nat} {f : C13} (w : World) (hp : CrtAt w base p f) (hpq : p ≠ q) (hbq : base ≤ q) (hst : ∀ x ∈ f.stamps, x.length < 65536) (hn : f.stamps.length ≤ 4294967296) :
    Emits base q 152 #[.pointer (some ⟨p, 0, none⟩)] (vecs 2 f.stamps) w := by
  intro c off pl bs w' hk hf hB hl
  have hp' := hp.ks hk hbq hpq
  have HP := Lib.hid hp'
  obtain ⟨v0, v1, v2, hh, _, _, _, h2, _⟩ := hp'
  have c2 : w'.cell? ⟨p, 2, none⟩ = some v2 := by rw [cell_of_heap hh]; rfl
  obtain ⟨ad, cap, rfl, hx, _⟩ := h2.len
  have HS := Lib.hid h2
  have HB := Lib.hid hB
  have HF := Lib.hid hf
  have HL := Lib.hid hl
  have hql := lt_of_heap hf
  clear hk hf hB hp h2 hh hl
  obtain ⟨L, hL⟩ : ∃ L, L = f.stamps := ⟨_, rfl⟩
  rw [← hL] at hst hn HS HL c2 hx ⊢
  clear hL
  simp only [List.append_toArray, List.cons_append, List.nil_append]
  go_enter Try.func152, Try.ntmps152
  go_wp2_with fail
  go_loopw [8] (fun i wr => ∃ j : Nat, j ≤ L.length ∧ i = .int .i64 j ∧ BAt wr base c off pl (.pointer (some ⟨q, 0, none⟩)) (bs ++ vecs 2 (L.take j)) ∧ Flag wr q true ∧ Fr base c w' wr ∧ SrcL wr base (.slice ad L.length cap) L) (fun i _ => L.length - (intOf i).toNat)
  case atStart => exact ⟨0, by omega, rfl, by simpa [vecs] using HB.out, HF.out, Fr.refl _ _ _, HS.out⟩
  case round =>
    obtain ⟨j, hj, rfl, hb, hfl, hfr, hsl⟩ := hrel
    have HBr := Lib.hid hb
    have HFr := Lib.hid hfl
    have HFRr := Lib.hid hfr
    have HSr := Lib.hid hsl
    clear hb hfl hfr
    by_cases hjn : j < L.length
    · obtain ⟨x, rfl⟩ := hx (by omega)
      obtain ⟨u, hu, hsrc⟩ := hsl.at hjn
      obtain ⟨au, cu, hue⟩ := hsrc.len
      obtain ⟨X, hX⟩ : ∃ X, X = L[j] := ⟨_, rfl⟩
      rw [← hX] at hue
      subst hue
      have hxl := hst _ (List.getElem_mem hjn)
      have hsn := take_snoc hjn
      have hvl := vecs_le (k := 2) L (j + 1)
      rw [hsn, vecs_snoc] at hvl
      have hb1 : (bs ++ vecs 2 (L.take j)).length + 2 + L[j].length ≤ 70368744177664 := by
        have := HL.out
        simp only [List.length_append, en_length] at hvl ⊢
        omega
      have HSN := Lib.hid hsn
      have HSRC := Lib.hid hsrc
      have HB1 := Lib.hid hb1
      rw [← hX] at HSRC hxl HB1
      have HX := Lib.hid hX
      clear hsl hsrc hvl hsn hb1 hX
      go_wp2_with fail
      obtain ⟨xB, hxB⟩ : ∃ x, x = wr.heap.size := ⟨_, rfl⟩
      obtain ⟨wA, hwA⟩ : ∃ x, x = wr.alloc (.cells #[.slice au X.length cu] 22) := ⟨_, rfl⟩
      rw [← hxB, ← hwA]
      have hxq : xB ≠ q := by have := lt_of_heap HFr.out; omega
      have hnew : wA.heap[xB]? = some (.cells #[.slice au X.length cu] 22 (0, 0)) := by rw [hwA, hxB]; exact heap_alloc_new _ _
      have hkA : Ks base q wr wA := by rw [hwA]; exact (Ks.refl _ _ _).alloc _
      have HBA : Hid (BAt wA base c off pl (.pointer (some ⟨q, 0, none⟩)) (bs ++ vecs 2 (L.take j))) := by rw [hwA]; exact HBr.out.alloc _
      have HFA : Hid (Flag wA q true) := by rw [hwA]; exact (Below.heap_alloc _ _ _ (lt_of_heap HFr.out)).trans HFr.out
      have HFRA : Hid (Fr base c w' wA) := by rw [hwA]; exact HFRr.out.alloc _
      have HSA := Lib.hid (HSr.out.ks hkA hbq)
      have HE := Lib.hid (em_var153 wA hnew (HSRC.out.ks hkA hbq) hxq hbq)
      clear hxB hwA hxq hnew hkA
      refine (lp2_flag (out := X) wA hxl HBA.out HFA.out HB1.out (enter_of Try.func153 (by kernel_rfl) (by kernel_rfl)) HE.out).mono ?_
      rintro e w2 ⟨rfl, hb2, hfr2⟩
      have hK : Ks base q wA w2 := Ks.of_fr hfr2 (.inr HBA.out.isBld)
      have HB2 := Lib.hid hb2
      have HFR2 := Lib.hid hfr2
      have HF2 := Lib.hid (hfr2.flag HFA.out (HBA.out.ne_flag HFA.out))
      have HS2 := Lib.hid (HSA.out.ks hK hbq)
      clear hb2 hfr2 hK
      go_wp2_with fail
      refine ⟨⟨j + 1, by omega, by simp, ?_, HF2.out, HFRA.out.trans HFR2.out, HS2.out⟩, by simp [intOf]; omega⟩
      rw [HSN.out, vecs_snoc, ← HX.out]
      have h := HB2.out
      simpa only [List.append_assoc] using h
    · have hjn' : j = L.length := by omega
      subst hjn'
      have hb := HBr.out
      rw [List.take_length] at hb
      have HBx := Lib.hid hb
      clear hsl hb
      go_wp2_with fail
      go_end0
      exact ⟨rfl, HBx.out, HFRr.out⟩

end Go.Proofs.Ytopcljikkdlffaa
