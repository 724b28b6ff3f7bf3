/- A ServerHello is made by package tls: its continuations. No statement of the seat is proved here. -/
import Derived.Test.YtopcljikkdlffaaMw
import Derived.Test.YtopcljikkdlffaaSa
import Derived.Laws.IdiomStrings
namespace Go.Proofs.Ytopcljikkdlffaa
open Go.RowKit

/-- What the cells of a serverHelloMsg that is made show. -/
def shS (f : SH) : List SD := [.any, .val (.int .u16 (f.vers : Nat)), .src f.random, .src f.session, .val (.int .u16 (f.cipher : Nat)), .val (.int .u8 (f.comp : Nat)), .val (.bool f.ocsp), .val (.bool f.ticket), .val (.bool f.srs), .src f.sr, .val (.bool f.ems), .val (.string ⟨f.alpn.toArray⟩), .lst f.scts, .val (.int .u16 (f.sver : Nat)), .val (.int .u16 (f.sgroup : Nat)), .src f.sdata, .val (.bool f.sip), .val (.int .u16 (f.sid : Nat)), .src f.pts, .src f.ech, .val (.bool f.sna), .src f.cookie, .val (.int .u16 (f.selg : Nat))]

/-- '[]byte(s)' of a string. -/
theorem conv_str (w : World) (s : List UInt8) : ∃ u w1, (convert 9 22 (.string ⟨s.toArray⟩)).run Try.prog w = .ok u w1 ∧ Src w1 u s ∧
    (∀ (base c off pl : Nat) (ic : Value) (bs : List UInt8), BAt w base c off pl ic bs → BAt w1 base c off pl ic bs) ∧ ∀ base c : Nat, Fr base c w w1 := by
  have h := run_bytes_of_string (P := Try.prog) w 9 22 5 ⟨s.toArray⟩ Try.underlying9 Try.underlying22 Try.underlying5
  refine ⟨_, _, h, ?_, fun base c off pl ic bs hB => BAt.alloc (w := w.drew) hB _, fun base c => (Fr.refl base c w).drew.alloc _⟩
  refine .inr ⟨_, _, rfl, fun j u hu => ?_⟩
  rw [add_plain, Nat.zero_add]
  have hn : ∀ (C : Array Value) (f : Nat × Nat), (w.drew.alloc (.cells C 5 f)).cell? ⟨w.heap.size, j, none⟩ = C[j]? := fun C f => cell_of_heap (heap_alloc_new w.drew _)
  rw [hn]
  unfold bytesRow
  have hj : j < (s.map by8).length := (List.getElem?_eq_some_iff.1 hu).1
  rw [Array.getElem?_append_left (by simpa using hj)]
  rw [List.getElem?_map] at hu
  rw [Array.getElem?_map]
  obtain ⟨b, hb, rfl⟩ := Option.map_eq_some_iff.1 hu
  have e : (⟨s.toArray⟩ : ByteArray).data[j]? = some b := by rw [List.getElem?_toArray]; exact hb
  rw [e]
  rfl

set_option maxRecDepth 100000 in
set_option maxHeartbeats 1000000 in
theorem em_s1a {base q x m : Nat} {f : SH} (w : World) (hM : MsgS w base x m (shS f)) (hxq : x ≠ q) (hmq : m ≠ q) (hbq : base ≤ q) : Emits base q 117 #[.pointer (some ⟨x, 0, none⟩)] f.sr w := by
  intro c off pl bs w' hk hf hB hl
  have hM' := hM.ks hk hbq hxq hmq
  have HM := Lib.hid hM'
  have HB := Lib.hid hB
  have HF := Lib.hid hf
  have cx := hM'.cell
  obtain ⟨v, hv, hs⟩ := hM'.src (i := 9) rfl
  have HS := Lib.hid hs.src
  clear hk hf hB hM hM' hs
  simp only [List.append_toArray, List.cons_append, List.nil_append]
  go_enter Try.func117, Try.ntmps117
  go_wp2_with fail
  refine (addb_ok w' HB.out HS.out hl).mono ?_
  rintro e w1 ⟨rfl, hb, hfr⟩
  go_wp2_with fail
  go_end0
  exact ⟨rfl, hb, hfr⟩

set_option maxRecDepth 100000 in
set_option maxHeartbeats 1000000 in
theorem em_s1 {base q x m : Nat} {f : SH} (w : World) (hM : MsgS w base x m (shS f)) (hxq : x ≠ q) (hmq : m ≠ q) (hbq : base ≤ q) (ho : (f.sr).length < 256) : Emits base q 115 #[.pointer (some ⟨x, 0, none⟩)] (en 1 (f.sr).length ++ (f.sr)) w := by
  intro c off pl bs w' hk hf hB hl
  have hM' := hM.ks hk hbq hxq hmq
  have HM := Lib.hid hM'
  have HB := Lib.hid hB
  have HF := Lib.hid hf
  have cx := hM'.cell
  have hl2 : bs.length + 1 + (f.sr).length ≤ 70368744177664 := by simp [en_length] at hl ⊢; omega
  clear hk hf hB hM hM' hl
  simp only [List.append_toArray, List.cons_append, List.nil_append]
  go_enter Try.func115, Try.ntmps115
  go_wp2_with fail
  refine (lp1_flag (out := f.sr) w' ho HB.out HF.out hl2 (enter_of Try.func117 (by kernel_rfl) (by kernel_rfl)) (em_s1a w' HM.out hxq hmq hbq )).mono ?_
  rintro e w1 ⟨rfl, hb, hfr⟩
  have HB1 := Lib.hid hb
  have HFR := Lib.hid hfr
  clear hb hfr
  go_wp2_with fail
  go_end0
  exact ⟨rfl, by have h := HB1.out; simpa only [List.append_assoc] using h, HFR.out⟩

set_option maxRecDepth 100000 in
set_option maxHeartbeats 1000000 in
theorem em_s2a {base q x m : Nat} {f : SH} (w : World) (hM : MsgS w base x m (shS f)) (hxq : x ≠ q) (hmq : m ≠ q) (hbq : base ≤ q) (ha : f.alpn.length ≤ 4294967296) : Emits base q 121 #[.pointer (some ⟨x, 0, none⟩)] f.alpn w := by
  intro c off pl bs w' hk hf hB hl
  have hM' := hM.ks hk hbq hxq hmq
  have HM := Lib.hid hM'
  have HB := Lib.hid hB
  have HF := Lib.hid hf
  have cx := hM'.cell
  have hv := hM'.val (i := 11) rfl
  clear hk hf hB hM hM'
  obtain ⟨u, wc, hcv, hsu, hbu, hfu⟩ := conv_str w' f.alpn
  have HBC := Lib.hid (hbu _ _ _ _ _ _ HB.out)
  have HFU := Lib.hid hfu
  have HSU := Lib.hid hsu
  clear hsu hbu hfu
  simp only [List.append_toArray, List.cons_append, List.nil_append]
  go_enter Try.func121, Try.ntmps121
  go_wp2_with fail
  refine (addb_ok wc HBC.out HSU.out hl).mono ?_
  rintro e w1 ⟨rfl, hb, hfr⟩
  go_wp2_with fail
  go_end0
  exact ⟨rfl, hb, (HFU.out _ _).trans hfr⟩

set_option maxRecDepth 100000 in
set_option maxHeartbeats 1000000 in
theorem em_s2b {base q x m : Nat} {f : SH} (w : World) (hM : MsgS w base x m (shS f)) (hxq : x ≠ q) (hmq : m ≠ q) (hbq : base ≤ q) (ha : f.alpn.length ≤ 4294967296) (ho : (f.alpn).length < 256) : Emits base q 120 #[.pointer (some ⟨x, 0, none⟩)] (en 1 (f.alpn).length ++ (f.alpn)) w := by
  intro c off pl bs w' hk hf hB hl
  have hM' := hM.ks hk hbq hxq hmq
  have HM := Lib.hid hM'
  have HB := Lib.hid hB
  have HF := Lib.hid hf
  have cx := hM'.cell
  have hl2 : bs.length + 1 + (f.alpn).length ≤ 70368744177664 := by simp [en_length] at hl ⊢; omega
  clear hk hf hB hM hM' hl
  simp only [List.append_toArray, List.cons_append, List.nil_append]
  go_enter Try.func120, Try.ntmps120
  go_wp2_with fail
  refine (lp1_flag (out := f.alpn) w' ho HB.out HF.out hl2 (enter_of Try.func121 (by kernel_rfl) (by kernel_rfl)) (em_s2a w' HM.out hxq hmq hbq ha)).mono ?_
  rintro e w1 ⟨rfl, hb, hfr⟩
  have HB1 := Lib.hid hb
  have HFR := Lib.hid hfr
  clear hb hfr
  go_wp2_with fail
  go_end0
  exact ⟨rfl, by have h := HB1.out; simpa only [List.append_assoc] using h, HFR.out⟩

set_option maxRecDepth 100000 in
set_option maxHeartbeats 1000000 in
theorem em_s2 {base q x m : Nat} {f : SH} (w : World) (hM : MsgS w base x m (shS f)) (hxq : x ≠ q) (hmq : m ≠ q) (hbq : base ≤ q) (ha : f.alpn.length ≤ 4294967296) (hb : f.alpn.length < 256) (ho : (en 1 f.alpn.length ++ f.alpn).length < 65536) : Emits base q 119 #[.pointer (some ⟨x, 0, none⟩)] (en 2 (en 1 f.alpn.length ++ f.alpn).length ++ (en 1 f.alpn.length ++ f.alpn)) w := by
  intro c off pl bs w' hk hf hB hl
  have hM' := hM.ks hk hbq hxq hmq
  have HM := Lib.hid hM'
  have HB := Lib.hid hB
  have HF := Lib.hid hf
  have cx := hM'.cell
  have hl2 : bs.length + 2 + (en 1 f.alpn.length ++ f.alpn).length ≤ 70368744177664 := by simp [en_length] at hl ⊢; omega
  clear hk hf hB hM hM' hl
  simp only [List.append_toArray, List.cons_append, List.nil_append]
  go_enter Try.func119, Try.ntmps119
  go_wp2_with fail
  refine (lp2_flag (out := en 1 f.alpn.length ++ f.alpn) w' ho HB.out HF.out hl2 (enter_of Try.func120 (by kernel_rfl) (by kernel_rfl)) (em_s2b w' HM.out hxq hmq hbq ha hb)).mono ?_
  rintro e w1 ⟨rfl, hb, hfr⟩
  have HB1 := Lib.hid hb
  have HFR := Lib.hid hfr
  clear hb hfr
  go_wp2_with fail
  go_end0
  exact ⟨rfl, by have h := HB1.out; simpa only [List.append_assoc] using h, HFR.out⟩

theorem em_s3v {base q x : Nat} {v : Value} {s : List UInt8} (w : World) (hx : w.heap[x]? = some (.cells #[v] 22 (0, 0))) (hs : SrcB w base v s) (hxq : x ≠ q) (hbq : base ≤ q) :
    Emits base q 124 #[.pointer (some ⟨x, 0, none⟩)] s w := by
  intro c off pl bs w' hk hf hB hl
  have c1 := cell_head (hk.other hx (by decide) hxq)
  have HS := Lib.hid (hs.ks hk hbq).src
  have HB := Lib.hid hB
  clear hk hf hB hx hs
  simp only [List.append_toArray, List.cons_append, List.nil_append]
  go_enter Try.func124, Try.ntmps124
  go_wp2_with fail
  refine (addb_ok w' HB.out HS.out hl).mono ?_
  rintro e w1 ⟨rfl, hb, hfr⟩
  go_wp2_with fail
  go_end0
  exact ⟨rfl, hb, hfr⟩

set_option maxRecDepth 100000 in
set_option maxHeartbeats 1000000 in
theorem em_s3a {base q x m : Nat} {f : SH} (w : World) (hM : MsgS w base x m (shS f)) (hxq : x ≠ q) (hmq : m ≠ q) (hbq : base ≤ q) (hst : ∀ x ∈ f.scts, x.length < 65536) (hn : f.scts.length ≤ 2147483647) : Emits base q 123 #[.pointer (some ⟨x, 0, none⟩)] (vecs 2 f.scts) w := by
  intro c off pl bs w' hk hf hB hl
  have hM' := hM.ks hk hbq hxq hmq
  have HM := Lib.hid hM'
  have HB := Lib.hid hB
  have HF := Lib.hid hf
  have cx := hM'.cell
  obtain ⟨vl, hvl, hls⟩ := hM'.lst (i := 12) rfl
  obtain ⟨ad, cap, rfl, hx, _⟩ := hls.len
  have HS := Lib.hid hls
  have HL := Lib.hid hl
  have hql := lt_of_heap hf
  clear hk hf hB hM hM' hls hl
  obtain ⟨L, hL⟩ : ∃ L, L = f.scts := ⟨_, rfl⟩
  rw [← hL] at hst hn HS HL hvl hx ⊢
  clear hL
  simp only [List.append_toArray, List.cons_append, List.nil_append]
  go_enter Try.func123, Try.ntmps123
  go_wp2_with fail
  go_loopw [10] (fun i wr => ∃ j : Nat, j ≤ L.length ∧ i = .int .i64 j ∧ BAt wr base c off pl (.pointer (some ⟨q, 0, none⟩)) (bs ++ vecs 2 (L.take j)) ∧ Flag wr q true ∧ Fr base c w' wr ∧ SrcL wr base (.slice ad L.length cap) L) (fun i _ => L.length - (intOf i).toNat)
  case atStart => exact ⟨0, by omega, rfl, by simpa [vecs] using HB.out, HF.out, Fr.refl _ _ _, HS.out⟩
  case round =>
    obtain ⟨j, hj, rfl, hb, hfl, hfr, hsl⟩ := hrel
    have HBr := Lib.hid hb
    have HFr := Lib.hid hfl
    have HFRr := Lib.hid hfr
    have HSr := Lib.hid hsl
    clear hb hfl hfr
    by_cases hjn : j < L.length
    · obtain ⟨x, rfl⟩ := hx (by omega)
      obtain ⟨u, hu, hsrc⟩ := hsl.at hjn
      obtain ⟨au, cu, hue⟩ := hsrc.len
      obtain ⟨X, hX⟩ : ∃ X, X = L[j] := ⟨_, rfl⟩
      rw [← hX] at hue
      subst hue
      have hxl := hst _ (List.getElem_mem hjn)
      have hsn := take_snoc hjn
      have hvl := vecs_le (k := 2) L (j + 1)
      rw [hsn, vecs_snoc] at hvl
      have hb1 : (bs ++ vecs 2 (L.take j)).length + 2 + L[j].length ≤ 70368744177664 := by
        have := HL.out
        simp only [List.length_append, en_length] at hvl ⊢
        omega
      have HSN := Lib.hid hsn
      have HSRC := Lib.hid hsrc
      have HB1 := Lib.hid hb1
      rw [← hX] at HSRC hxl HB1
      have HX := Lib.hid hX
      clear hsl hsrc hvl hsn hb1 hX
      go_wp2_with fail
      obtain ⟨xB, hxB⟩ : ∃ x, x = wr.heap.size := ⟨_, rfl⟩
      obtain ⟨wA, hwA⟩ : ∃ x, x = wr.alloc (.cells #[.slice au X.length cu] 22) := ⟨_, rfl⟩
      rw [← hxB, ← hwA]
      have hxq : xB ≠ q := by have := lt_of_heap HFr.out; omega
      have hnew : wA.heap[xB]? = some (.cells #[.slice au X.length cu] 22 (0, 0)) := by rw [hwA, hxB]; exact heap_alloc_new _ _
      have hkA : Ks base q wr wA := by rw [hwA]; exact (Ks.refl _ _ _).alloc _
      have HBA : Hid (BAt wA base c off pl (.pointer (some ⟨q, 0, none⟩)) (bs ++ vecs 2 (L.take j))) := by rw [hwA]; exact HBr.out.alloc _
      have HFA : Hid (Flag wA q true) := by rw [hwA]; exact (Below.heap_alloc _ _ _ (lt_of_heap HFr.out)).trans HFr.out
      have HFRA : Hid (Fr base c w' wA) := by rw [hwA]; exact HFRr.out.alloc _
      have HSA := Lib.hid (HSr.out.ks hkA hbq)
      have HE := Lib.hid (em_s3v wA hnew (HSRC.out.ks hkA hbq) hxq hbq)
      clear hxB hwA hxq hnew hkA
      refine (lp2_flag (out := X) wA hxl HBA.out HFA.out HB1.out (enter_of Try.func124 (by kernel_rfl) (by kernel_rfl)) HE.out).mono ?_
      rintro e w2 ⟨rfl, hb2, hfr2⟩
      have hK : Ks base q wA w2 := Ks.of_fr hfr2 (.inr HBA.out.isBld)
      have HB2 := Lib.hid hb2
      have HFR2 := Lib.hid hfr2
      have HF2 := Lib.hid (hfr2.flag HFA.out (HBA.out.ne_flag HFA.out))
      have HS2 := Lib.hid (HSA.out.ks hK hbq)
      clear hb2 hfr2 hK
      go_wp2_with fail
      refine ⟨⟨j + 1, by omega, by simp, ?_, HF2.out, HFRA.out.trans HFR2.out, HS2.out⟩, by simp [intOf]; omega⟩
      rw [HSN.out, vecs_snoc, ← HX.out]
      have h := HB2.out
      simpa only [List.append_assoc] using h
    · have hjn' : j = L.length := by omega
      subst hjn'
      have hb := HBr.out
      rw [List.take_length] at hb
      have HBx := Lib.hid hb
      clear hsl hb
      go_wp2_with fail
      go_end0
      exact ⟨rfl, HBx.out, HFRr.out⟩

set_option maxRecDepth 100000 in
set_option maxHeartbeats 1000000 in
theorem em_s3 {base q x m : Nat} {f : SH} (w : World) (hM : MsgS w base x m (shS f)) (hxq : x ≠ q) (hmq : m ≠ q) (hbq : base ≤ q) (hst : ∀ x ∈ f.scts, x.length < 65536) (hn : f.scts.length ≤ 2147483647) (ho : (vecs 2 f.scts).length < 65536) : Emits base q 122 #[.pointer (some ⟨x, 0, none⟩)] (en 2 (vecs 2 f.scts).length ++ (vecs 2 f.scts)) w := by
  intro c off pl bs w' hk hf hB hl
  have hM' := hM.ks hk hbq hxq hmq
  have HM := Lib.hid hM'
  have HB := Lib.hid hB
  have HF := Lib.hid hf
  have cx := hM'.cell
  have hl2 : bs.length + 2 + (vecs 2 f.scts).length ≤ 70368744177664 := by simp [en_length] at hl ⊢; omega
  clear hk hf hB hM hM' hl
  simp only [List.append_toArray, List.cons_append, List.nil_append]
  go_enter Try.func122, Try.ntmps122
  go_wp2_with fail
  refine (lp2_flag (out := vecs 2 f.scts) w' ho HB.out HF.out hl2 (enter_of Try.func123 (by kernel_rfl) (by kernel_rfl)) (em_s3a w' HM.out hxq hmq hbq hst hn)).mono ?_
  rintro e w1 ⟨rfl, hb, hfr⟩
  have HB1 := Lib.hid hb
  have HFR := Lib.hid hfr
  clear hb hfr
  go_wp2_with fail
  go_end0
  exact ⟨rfl, by have h := HB1.out; simpa only [List.append_assoc] using h, HFR.out⟩

set_option maxRecDepth 100000 in
set_option maxHeartbeats 1000000 in
theorem em_s4 {base q x m : Nat} {f : SH} (w : World) (hM : MsgS w base x m (shS f)) (hxq : x ≠ q) (hmq : m ≠ q) (hbq : base ≤ q) (hn : f.sver < 65536) : Emits base q 125 #[.pointer (some ⟨x, 0, none⟩)] (en 2 f.sver) w := by
  intro c off pl bs w' hk hf hB hl
  have hM' := hM.ks hk hbq hxq hmq
  have HM := Lib.hid hM'
  have HB := Lib.hid hB
  have HF := Lib.hid hf
  have cx := hM'.cell
  have hv := hM'.val (i := 13) rfl
  have hl2 : bs.length + 2 ≤ 70368744177664 := by simpa [en_length] using hl
  clear hk hf hB hM hM' hl
  simp only [List.append_toArray, List.cons_append, List.nil_append]
  go_enter Try.func125, Try.ntmps125
  go_wp2_with fail
  refine (add16_ok _ w' (by omega) (by omega) HB.out hl2).mono ?_
  rintro e w1 ⟨rfl, hb, hfr⟩
  go_wp2_with fail
  go_end0
  exact ⟨rfl, by simpa using hb, hfr⟩

set_option maxRecDepth 100000 in
set_option maxHeartbeats 1000000 in
theorem em_s5a {base q x m : Nat} {f : SH} (w : World) (hM : MsgS w base x m (shS f)) (hxq : x ≠ q) (hmq : m ≠ q) (hbq : base ≤ q) : Emits base q 127 #[.pointer (some ⟨x, 0, none⟩)] f.sdata w := by
  intro c off pl bs w' hk hf hB hl
  have hM' := hM.ks hk hbq hxq hmq
  have HM := Lib.hid hM'
  have HB := Lib.hid hB
  have HF := Lib.hid hf
  have cx := hM'.cell
  obtain ⟨v, hv, hs⟩ := hM'.src (i := 15) rfl
  have HS := Lib.hid hs.src
  clear hk hf hB hM hM' hs
  simp only [List.append_toArray, List.cons_append, List.nil_append]
  go_enter Try.func127, Try.ntmps127
  go_wp2_with fail
  refine (addb_ok w' HB.out HS.out hl).mono ?_
  rintro e w1 ⟨rfl, hb, hfr⟩
  go_wp2_with fail
  go_end0
  exact ⟨rfl, hb, hfr⟩

set_option maxRecDepth 100000 in
set_option maxHeartbeats 1000000 in
theorem em_s5 {base q x m : Nat} {f : SH} (w : World) (hM : MsgS w base x m (shS f)) (hxq : x ≠ q) (hmq : m ≠ q) (hbq : base ≤ q) (hn : f.sgroup < 65536) (ho : f.sdata.length < 65536) : Emits base q 126 #[.pointer (some ⟨x, 0, none⟩)] (en 2 f.sgroup ++ en 2 f.sdata.length ++ f.sdata) w := by
  intro c off pl bs w' hk hf hB hl
  have hM' := hM.ks hk hbq hxq hmq
  have HM := Lib.hid hM'
  have HB := Lib.hid hB
  have HF := Lib.hid hf
  have cx := hM'.cell
  have hv := hM'.val (i := 14) rfl
  have hl2 : bs.length + 2 + 2 + f.sdata.length ≤ 70368744177664 := by simp [en_length] at hl; omega
  clear hk hf hB hM hM' hl
  simp only [List.append_toArray, List.cons_append, List.nil_append]
  go_enter Try.func126, Try.ntmps126
  go_wp2_with fail
  refine (add16_ok _ w' (by omega) (by omega) HB.out (by omega)).mono ?_
  rintro e w1 ⟨rfl, hb, hfr⟩
  have hK : Ks base q w' w1 := Ks.of_fr hfr (.inr HB.out.isBld)
  have HB1 : Hid (BAt w1 base c off pl (.pointer (some ⟨q, 0, none⟩)) (bs ++ en 2 f.sgroup)) := Lib.hid (by simpa using hb)
  have HFR1 := Lib.hid hfr
  have HM1 := Lib.hid (HM.out.ks hK hbq hxq hmq)
  have HF1 := Lib.hid (hfr.flag HF.out (HB.out.ne_flag HF.out))
  clear hb hfr hK
  go_wp2_with fail
  refine (lp2_flag (out := f.sdata) w1 ho HB1.out HF1.out (by simp [en_length]; omega) (enter_of Try.func127 (by kernel_rfl) (by kernel_rfl)) (em_s5a w1 HM1.out hxq hmq hbq)).mono ?_
  rintro e w2 ⟨rfl, hb, hfr⟩
  have HB2 := Lib.hid hb
  have HFR2 := Lib.hid hfr
  clear hb hfr
  go_wp2_with fail
  go_end0
  exact ⟨rfl, by have h := HB2.out; simpa only [List.append_assoc] using h, HFR1.out.trans HFR2.out⟩

set_option maxRecDepth 100000 in
set_option maxHeartbeats 1000000 in
theorem em_s6 {base q x m : Nat} {f : SH} (w : World) (hM : MsgS w base x m (shS f)) (hxq : x ≠ q) (hmq : m ≠ q) (hbq : base ≤ q) (hn : f.sid < 65536) : Emits base q 128 #[.pointer (some ⟨x, 0, none⟩)] (en 2 f.sid) w := by
  intro c off pl bs w' hk hf hB hl
  have hM' := hM.ks hk hbq hxq hmq
  have HM := Lib.hid hM'
  have HB := Lib.hid hB
  have HF := Lib.hid hf
  have cx := hM'.cell
  have hv := hM'.val (i := 17) rfl
  have hl2 : bs.length + 2 ≤ 70368744177664 := by simpa [en_length] using hl
  clear hk hf hB hM hM' hl
  simp only [List.append_toArray, List.cons_append, List.nil_append]
  go_enter Try.func128, Try.ntmps128
  go_wp2_with fail
  refine (add16_ok _ w' (by omega) (by omega) HB.out hl2).mono ?_
  rintro e w1 ⟨rfl, hb, hfr⟩
  go_wp2_with fail
  go_end0
  exact ⟨rfl, by simpa using hb, hfr⟩

set_option maxRecDepth 100000 in
set_option maxHeartbeats 1000000 in
theorem em_s7a {base q x m : Nat} {f : SH} (w : World) (hM : MsgS w base x m (shS f)) (hxq : x ≠ q) (hmq : m ≠ q) (hbq : base ≤ q) : Emits base q 130 #[.pointer (some ⟨x, 0, none⟩)] f.cookie w := by
  intro c off pl bs w' hk hf hB hl
  have hM' := hM.ks hk hbq hxq hmq
  have HM := Lib.hid hM'
  have HB := Lib.hid hB
  have HF := Lib.hid hf
  have cx := hM'.cell
  obtain ⟨v, hv, hs⟩ := hM'.src (i := 21) rfl
  have HS := Lib.hid hs.src
  clear hk hf hB hM hM' hs
  simp only [List.append_toArray, List.cons_append, List.nil_append]
  go_enter Try.func130, Try.ntmps130
  go_wp2_with fail
  refine (addb_ok w' HB.out HS.out hl).mono ?_
  rintro e w1 ⟨rfl, hb, hfr⟩
  go_wp2_with fail
  go_end0
  exact ⟨rfl, hb, hfr⟩

set_option maxRecDepth 100000 in
set_option maxHeartbeats 1000000 in
theorem em_s7 {base q x m : Nat} {f : SH} (w : World) (hM : MsgS w base x m (shS f)) (hxq : x ≠ q) (hmq : m ≠ q) (hbq : base ≤ q) (ho : (f.cookie).length < 65536) : Emits base q 129 #[.pointer (some ⟨x, 0, none⟩)] (en 2 (f.cookie).length ++ (f.cookie)) w := by
  intro c off pl bs w' hk hf hB hl
  have hM' := hM.ks hk hbq hxq hmq
  have HM := Lib.hid hM'
  have HB := Lib.hid hB
  have HF := Lib.hid hf
  have cx := hM'.cell
  have hl2 : bs.length + 2 + (f.cookie).length ≤ 70368744177664 := by simp [en_length] at hl ⊢; omega
  clear hk hf hB hM hM' hl
  simp only [List.append_toArray, List.cons_append, List.nil_append]
  go_enter Try.func129, Try.ntmps129
  go_wp2_with fail
  refine (lp2_flag (out := f.cookie) w' ho HB.out HF.out hl2 (enter_of Try.func130 (by kernel_rfl) (by kernel_rfl)) (em_s7a w' HM.out hxq hmq hbq )).mono ?_
  rintro e w1 ⟨rfl, hb, hfr⟩
  have HB1 := Lib.hid hb
  have HFR := Lib.hid hfr
  clear hb hfr
  go_wp2_with fail
  go_end0
  exact ⟨rfl, by have h := HB1.out; simpa only [List.append_assoc] using h, HFR.out⟩

set_option maxRecDepth 100000 in
set_option maxHeartbeats 1000000 in
theorem em_s8 {base q x m : Nat} {f : SH} (w : World) (hM : MsgS w base x m (shS f)) (hxq : x ≠ q) (hmq : m ≠ q) (hbq : base ≤ q) (hn : f.selg < 65536) : Emits base q 131 #[.pointer (some ⟨x, 0, none⟩)] (en 2 f.selg) w := by
  intro c off pl bs w' hk hf hB hl
  have hM' := hM.ks hk hbq hxq hmq
  have HM := Lib.hid hM'
  have HB := Lib.hid hB
  have HF := Lib.hid hf
  have cx := hM'.cell
  have hv := hM'.val (i := 22) rfl
  have hl2 : bs.length + 2 ≤ 70368744177664 := by simpa [en_length] using hl
  clear hk hf hB hM hM' hl
  simp only [List.append_toArray, List.cons_append, List.nil_append]
  go_enter Try.func131, Try.ntmps131
  go_wp2_with fail
  refine (add16_ok _ w' (by omega) (by omega) HB.out hl2).mono ?_
  rintro e w1 ⟨rfl, hb, hfr⟩
  go_wp2_with fail
  go_end0
  exact ⟨rfl, by simpa using hb, hfr⟩

set_option maxRecDepth 100000 in
set_option maxHeartbeats 1000000 in
theorem em_s9a {base q x m : Nat} {f : SH} (w : World) (hM : MsgS w base x m (shS f)) (hxq : x ≠ q) (hmq : m ≠ q) (hbq : base ≤ q) : Emits base q 133 #[.pointer (some ⟨x, 0, none⟩)] f.pts w := by
  intro c off pl bs w' hk hf hB hl
  have hM' := hM.ks hk hbq hxq hmq
  have HM := Lib.hid hM'
  have HB := Lib.hid hB
  have HF := Lib.hid hf
  have cx := hM'.cell
  obtain ⟨v, hv, hs⟩ := hM'.src (i := 18) rfl
  have HS := Lib.hid hs.src
  clear hk hf hB hM hM' hs
  simp only [List.append_toArray, List.cons_append, List.nil_append]
  go_enter Try.func133, Try.ntmps133
  go_wp2_with fail
  refine (addb_ok w' HB.out HS.out hl).mono ?_
  rintro e w1 ⟨rfl, hb, hfr⟩
  go_wp2_with fail
  go_end0
  exact ⟨rfl, hb, hfr⟩

set_option maxRecDepth 100000 in
set_option maxHeartbeats 1000000 in
theorem em_s9 {base q x m : Nat} {f : SH} (w : World) (hM : MsgS w base x m (shS f)) (hxq : x ≠ q) (hmq : m ≠ q) (hbq : base ≤ q) (ho : (f.pts).length < 256) : Emits base q 132 #[.pointer (some ⟨x, 0, none⟩)] (en 1 (f.pts).length ++ (f.pts)) w := by
  intro c off pl bs w' hk hf hB hl
  have hM' := hM.ks hk hbq hxq hmq
  have HM := Lib.hid hM'
  have HB := Lib.hid hB
  have HF := Lib.hid hf
  have cx := hM'.cell
  have hl2 : bs.length + 1 + (f.pts).length ≤ 70368744177664 := by simp [en_length] at hl ⊢; omega
  clear hk hf hB hM hM' hl
  simp only [List.append_toArray, List.cons_append, List.nil_append]
  go_enter Try.func132, Try.ntmps132
  go_wp2_with fail
  refine (lp1_flag (out := f.pts) w' ho HB.out HF.out hl2 (enter_of Try.func133 (by kernel_rfl) (by kernel_rfl)) (em_s9a w' HM.out hxq hmq hbq )).mono ?_
  rintro e w1 ⟨rfl, hb, hfr⟩
  have HB1 := Lib.hid hb
  have HFR := Lib.hid hfr
  clear hb hfr
  go_wp2_with fail
  go_end0
  exact ⟨rfl, by have h := HB1.out; simpa only [List.append_assoc] using h, HFR.out⟩

set_option maxRecDepth 100000 in
set_option maxHeartbeats 1000000 in
theorem em_s10 {base q x m : Nat} {f : SH} (w : World) (hM : MsgS w base x m (shS f)) (hxq : x ≠ q) (hmq : m ≠ q) (hbq : base ≤ q) : Emits base q 134 #[.pointer (some ⟨x, 0, none⟩)] f.ech w := by
  intro c off pl bs w' hk hf hB hl
  have hM' := hM.ks hk hbq hxq hmq
  have HM := Lib.hid hM'
  have HB := Lib.hid hB
  have HF := Lib.hid hf
  have cx := hM'.cell
  obtain ⟨v, hv, hs⟩ := hM'.src (i := 19) rfl
  have HS := Lib.hid hs.src
  clear hk hf hB hM hM' hs
  simp only [List.append_toArray, List.cons_append, List.nil_append]
  go_enter Try.func134, Try.ntmps134
  go_wp2_with fail
  refine (addb_ok w' HB.out HS.out hl).mono ?_
  rintro e w1 ⟨rfl, hb, hfr⟩
  go_wp2_with fail
  go_end0
  exact ⟨rfl, hb, hfr⟩

set_option maxRecDepth 100000 in
set_option maxHeartbeats 1000000 in
theorem em_s11a {base q x m : Nat} {f : SH} (w : World) (hM : MsgS w base x m (shS f)) (hxq : x ≠ q) (hmq : m ≠ q) (hbq : base ≤ q) : Emits base q 137 #[.pointer (some ⟨x, 0, none⟩)] f.session w := by
  intro c off pl bs w' hk hf hB hl
  have hM' := hM.ks hk hbq hxq hmq
  have HM := Lib.hid hM'
  have HB := Lib.hid hB
  have HF := Lib.hid hf
  have cx := hM'.cell
  obtain ⟨v, hv, hs⟩ := hM'.src (i := 3) rfl
  have HS := Lib.hid hs.src
  clear hk hf hB hM hM' hs
  simp only [List.append_toArray, List.cons_append, List.nil_append]
  go_enter Try.func137, Try.ntmps137
  go_wp2_with fail
  refine (addb_ok w' HB.out HS.out hl).mono ?_
  rintro e w1 ⟨rfl, hb, hfr⟩
  go_wp2_with fail
  go_end0
  exact ⟨rfl, hb, hfr⟩

theorem em_s11b {base q x : Nat} {v : Value} {s : List UInt8} (w : World) (hx : w.heap[x]? = some (.cells #[v] 22 (0, 0))) (hs : SrcB w base v s) (hxq : x ≠ q) (hbq : base ≤ q) :
    Emits base q 138 #[.pointer (some ⟨x, 0, none⟩)] s w := by
  intro c off pl bs w' hk hf hB hl
  have c1 := cell_head (hk.other hx (by decide) hxq)
  have HS := Lib.hid (hs.ks hk hbq).src
  have HB := Lib.hid hB
  clear hk hf hB hx hs
  simp only [List.append_toArray, List.cons_append, List.nil_append]
  go_enter Try.func138, Try.ntmps138
  go_wp2_with fail
  refine (addb_ok w' HB.out HS.out hl).mono ?_
  rintro e w1 ⟨rfl, hb, hfr⟩
  go_wp2_with fail
  go_end0
  exact ⟨rfl, hb, hfr⟩

end Go.Proofs.Ytopcljikkdlffaa
