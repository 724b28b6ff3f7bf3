/- A ClientHello is made by package tls: the continuations of its marshal. No statement of the seat is proved here. -/
import Derived.Test.YtopcljikkdlffaaGreatX12
namespace Go.Proofs.YtopcljikkdlffaaGreat
open Go.RowKit

set_option maxRecDepth 100000 in
set_option maxHeartbeats 1000000 in
theorem ec_1b {base q x m : Nat} {f : CH} (w : World) (hM : MsgC w base x m (chS f)) (hbq : base ≤ q) : Emits base q 54 #[.pointer (some ⟨x, 0, none⟩)] f.name w := by
  intro c off pl bs w' hk hf hB hl
  have hM' := hM.ks hk hbq
  have HM := Lib.hid hM'
  have HB := Lib.hid hB
  have HF := Lib.hid hf
  have cx := hM'.cell
  have hv := hM'.val (i := 6) rfl
  clear hk hf hB hM hM'
  obtain ⟨u, wc, hcv, hsu, hbu, hfu⟩ := conv_str w' f.name
  have HBC := Lib.hid (hbu _ _ _ _ _ _ HB.out)
  have HFU := Lib.hid hfu
  have HSU := Lib.hid hsu
  clear hsu hbu hfu
  simp only [List.append_toArray, List.cons_append, List.nil_append]
  go_enter Tryz.func54, Tryz.ntmps54
  go_wp2_with fail
  refine (addb_ok wc HBC.out HSU.out hl).mono ?_
  rintro e w1 ⟨rfl, hb, hfr⟩
  go_wp2_with fail
  go_end0
  exact ⟨rfl, hb, (HFU.out _ _).trans hfr⟩

set_option maxRecDepth 100000 in
set_option maxHeartbeats 1000000 in
theorem ec_1a {base q x m : Nat} {f : CH} (w : World) (hM : MsgC w base x m (chS f)) (hbq : base ≤ q) (ho : f.name.length < 65536) : Emits base q 53 #[.pointer (some ⟨x, 0, none⟩)] (en 1 0 ++ en 2 f.name.length ++ f.name) w := by
  intro c off pl bs w' hk hf hB hl
  have hM' := hM.ks hk hbq
  have HM := Lib.hid hM'
  have HB := Lib.hid hB
  have HF := Lib.hid hf
  have cx := hM'.cell
  have hl2 : bs.length + 1 + 2 + f.name.length ≤ 70368744177664 := by simp only [List.length_append, en_length] at hl; omega
  clear hk hf hB hM hM' hl
  simp only [List.append_toArray, List.cons_append, List.nil_append]
  go_enter Tryz.func53, Tryz.ntmps53
  go_wp2_with fail
  refine (add8_ok 0 w' (by omega) (by omega) HB.out (by omega)).mono ?_
  rintro e w1 ⟨rfl, hb, hfr⟩
  have hK : Ks base q w' w1 := Ks.of_fr hfr (.inr HB.out.isBld)
  have HB1 : Hid (BAt w1 base c off pl (.pointer (some ⟨q, 0, none⟩)) (bs ++ en 1 0)) := Lib.hid hb
  have HFR1 := Lib.hid hfr
  have HM1 := Lib.hid (HM.out.ks hK hbq)
  have HF1 := Lib.hid (hfr.flag HF.out (HB.out.ne_flag HF.out))
  clear hb hfr hK
  go_wp2_with fail
  refine (lp2_flag (out := f.name) w1 ho HB1.out HF1.out (by simp only [List.length_append, en_length]; omega) (enter_of Tryz.func54 (by kernel_rfl) (by kernel_rfl)) (ec_1b w1 HM1.out hbq)).mono ?_
  rintro e w2 ⟨rfl, hb, hfr⟩
  have HB2 := Lib.hid hb
  have HFR2 := Lib.hid hfr
  clear hb hfr
  go_wp2_with fail
  go_end0
  exact ⟨rfl, by have h := HB2.out; simpa only [List.append_assoc] using h, HFR1.out.trans HFR2.out⟩

set_option maxRecDepth 100000 in
set_option maxHeartbeats 1000000 in
theorem ec_1 {base q x m : Nat} {f : CH} (w : World) (hM : MsgC w base x m (chS f)) (hbq : base ≤ q) (hn : f.name.length < 65536) (ho : (en 1 0 ++ en 2 f.name.length ++ f.name).length < 65536) : Emits base q 52 #[.pointer (some ⟨x, 0, none⟩)] (en 2 (en 1 0 ++ en 2 f.name.length ++ f.name).length ++ (en 1 0 ++ en 2 f.name.length ++ f.name)) w := by
  intro c off pl bs w' hk hf hB hl
  have hM' := hM.ks hk hbq
  have HM := Lib.hid hM'
  have HB := Lib.hid hB
  have HF := Lib.hid hf
  have cx := hM'.cell
  have hl2 : bs.length + 2 + (en 1 0 ++ en 2 f.name.length ++ f.name).length ≤ 70368744177664 := by rw [List.length_append, en_length] at hl; omega
  clear hk hf hB hM hM' hl
  simp only [List.append_toArray, List.cons_append, List.nil_append]
  go_enter Tryz.func52, Tryz.ntmps52
  go_wp2_with fail
  refine (lp2_flag (out := en 1 0 ++ en 2 f.name.length ++ f.name) w' ho HB.out HF.out hl2 (enter_of Tryz.func53 (by kernel_rfl) (by kernel_rfl)) (ec_1a w' HM.out hbq hn)).mono ?_
  rintro e w1 ⟨rfl, hb, hfr⟩
  have HB1 := Lib.hid hb
  have HFR := Lib.hid hfr
  clear hb hfr
  go_wp2_with fail
  go_end0
  exact ⟨rfl, by have h := HB1.out; simpa only [List.append_assoc] using h, HFR.out⟩

set_option maxRecDepth 100000 in
set_option maxHeartbeats 1000000 in
theorem ec_2a {base q x m : Nat} {f : CH} (w : World) (hM : MsgC w base x m (chS f)) (hbq : base ≤ q) : Emits base q 58 #[.pointer (some ⟨x, 0, none⟩)] (f.points) w := by
  intro c off pl bs w' hk hf hB hl
  have hM' := hM.ks hk hbq
  have HM := Lib.hid hM'
  have HB := Lib.hid hB
  have HF := Lib.hid hf
  have cx := hM'.cell
  obtain ⟨v, hv, hs⟩ := hM'.at (i := 9) rfl
  have HS := Lib.hid (SrcB.src hs)
  clear hk hf hB hM hM' hs
  simp only [List.append_toArray, List.cons_append, List.nil_append]
  go_enter Tryz.func58, Tryz.ntmps58
  go_wp2_with fail
  refine (addb_ok w' HB.out HS.out hl).mono ?_
  rintro e w1 ⟨rfl, hb, hfr⟩
  go_wp2_with fail
  go_end0
  exact ⟨rfl, hb, hfr⟩

set_option maxRecDepth 100000 in
set_option maxHeartbeats 1000000 in
theorem ec_2 {base q x m : Nat} {f : CH} (w : World) (hM : MsgC w base x m (chS f)) (hbq : base ≤ q) (ho : (f.points).length < 256) : Emits base q 56 #[.pointer (some ⟨x, 0, none⟩)] (en 1 (f.points).length ++ (f.points)) w := by
  intro c off pl bs w' hk hf hB hl
  have hM' := hM.ks hk hbq
  have HM := Lib.hid hM'
  have HB := Lib.hid hB
  have HF := Lib.hid hf
  have cx := hM'.cell
  have hl2 : bs.length + 1 + (f.points).length ≤ 70368744177664 := by rw [List.length_append, en_length] at hl; omega
  clear hk hf hB hM hM' hl
  simp only [List.append_toArray, List.cons_append, List.nil_append]
  go_enter Tryz.func56, Tryz.ntmps56
  go_wp2_with fail
  refine (lp1_flag (out := f.points) w' ho HB.out HF.out hl2 (enter_of Tryz.func58 (by kernel_rfl) (by kernel_rfl)) (ec_2a w' HM.out hbq )).mono ?_
  rintro e w1 ⟨rfl, hb, hfr⟩
  have HB1 := Lib.hid hb
  have HFR := Lib.hid hfr
  clear hb hfr
  go_wp2_with fail
  go_end0
  exact ⟨rfl, by have h := HB1.out; simpa only [List.append_assoc] using h, HFR.out⟩

set_option maxRecDepth 100000 in
set_option maxHeartbeats 1000000 in
theorem ec_3 {base q x m : Nat} {f : CH} (w : World) (hM : MsgC w base x m (chS f)) (hbq : base ≤ q) : Emits base q 59 #[.pointer (some ⟨x, 0, none⟩)] (f.tickets) w := by
  intro c off pl bs w' hk hf hB hl
  have hM' := hM.ks hk hbq
  have HM := Lib.hid hM'
  have HB := Lib.hid hB
  have HF := Lib.hid hf
  have cx := hM'.cell
  obtain ⟨v, hv, hs⟩ := hM'.at (i := 11) rfl
  have HS := Lib.hid (SrcB.src hs)
  clear hk hf hB hM hM' hs
  simp only [List.append_toArray, List.cons_append, List.nil_append]
  go_enter Tryz.func59, Tryz.ntmps59
  go_wp2_with fail
  refine (addb_ok w' HB.out HS.out hl).mono ?_
  rintro e w1 ⟨rfl, hb, hfr⟩
  go_wp2_with fail
  go_end0
  exact ⟨rfl, hb, hfr⟩

set_option maxRecDepth 100000 in
set_option maxHeartbeats 1000000 in
theorem ec_4a {base q x m : Nat} {f : CH} (w : World) (hM : MsgC w base x m (chS f)) (hbq : base ≤ q) : Emits base q 61 #[.pointer (some ⟨x, 0, none⟩)] (f.sr) w := by
  intro c off pl bs w' hk hf hB hl
  have hM' := hM.ks hk hbq
  have HM := Lib.hid hM'
  have HB := Lib.hid hB
  have HF := Lib.hid hf
  have cx := hM'.cell
  obtain ⟨v, hv, hs⟩ := hM'.at (i := 15) rfl
  have HS := Lib.hid (SrcB.src hs)
  clear hk hf hB hM hM' hs
  simp only [List.append_toArray, List.cons_append, List.nil_append]
  go_enter Tryz.func61, Tryz.ntmps61
  go_wp2_with fail
  refine (addb_ok w' HB.out HS.out hl).mono ?_
  rintro e w1 ⟨rfl, hb, hfr⟩
  go_wp2_with fail
  go_end0
  exact ⟨rfl, hb, hfr⟩

set_option maxRecDepth 100000 in
set_option maxHeartbeats 1000000 in
theorem ec_4 {base q x m : Nat} {f : CH} (w : World) (hM : MsgC w base x m (chS f)) (hbq : base ≤ q) (ho : (f.sr).length < 256) : Emits base q 60 #[.pointer (some ⟨x, 0, none⟩)] (en 1 (f.sr).length ++ (f.sr)) w := by
  intro c off pl bs w' hk hf hB hl
  have hM' := hM.ks hk hbq
  have HM := Lib.hid hM'
  have HB := Lib.hid hB
  have HF := Lib.hid hf
  have cx := hM'.cell
  have hl2 : bs.length + 1 + (f.sr).length ≤ 70368744177664 := by rw [List.length_append, en_length] at hl; omega
  clear hk hf hB hM hM' hl
  simp only [List.append_toArray, List.cons_append, List.nil_append]
  go_enter Tryz.func60, Tryz.ntmps60
  go_wp2_with fail
  refine (lp1_flag (out := f.sr) w' ho HB.out HF.out hl2 (enter_of Tryz.func61 (by kernel_rfl) (by kernel_rfl)) (ec_4a w' HM.out hbq )).mono ?_
  rintro e w1 ⟨rfl, hb, hfr⟩
  have HB1 := Lib.hid hb
  have HFR := Lib.hid hfr
  clear hb hfr
  go_wp2_with fail
  go_end0
  exact ⟨rfl, by have h := HB1.out; simpa only [List.append_assoc] using h, HFR.out⟩

set_option maxRecDepth 100000 in
set_option maxHeartbeats 1000000 in
theorem ec_5 {base q x m : Nat} {f : CH} (w : World) (hM : MsgC w base x m (chS f)) (hbq : base ≤ q) : Emits base q 62 #[.pointer (some ⟨x, 0, none⟩)] (f.quic.getD []) w := by
  intro c off pl bs w' hk hf hB hl
  have hM' := hM.ks hk hbq
  have HM := Lib.hid hM'
  have HB := Lib.hid hB
  have HF := Lib.hid hf
  have cx := hM'.cell
  obtain ⟨v, hv, hs, _⟩ := hM'.at (i := 26) rfl
  have HS := Lib.hid (SrcB.src hs)
  clear hk hf hB hM hM' hs
  simp only [List.append_toArray, List.cons_append, List.nil_append]
  go_enter Tryz.func62, Tryz.ntmps62
  go_wp2_with fail
  refine (addb_ok w' HB.out HS.out hl).mono ?_
  rintro e w1 ⟨rfl, hb, hfr⟩
  go_wp2_with fail
  go_end0
  exact ⟨rfl, hb, hfr⟩

set_option maxRecDepth 100000 in
set_option maxHeartbeats 1000000 in
theorem ec_6 {base q x m : Nat} {f : CH} (w : World) (hM : MsgC w base x m (chS f)) (hbq : base ≤ q) : Emits base q 63 #[.pointer (some ⟨x, 0, none⟩)] (f.ech) w := by
  intro c off pl bs w' hk hf hB hl
  have hM' := hM.ks hk hbq
  have HM := Lib.hid hM'
  have HB := Lib.hid hB
  have HF := Lib.hid hf
  have cx := hM'.cell
  obtain ⟨v, hv, hs⟩ := hM'.at (i := 27) rfl
  have HS := Lib.hid (SrcB.src hs)
  clear hk hf hB hM hM' hs
  simp only [List.append_toArray, List.cons_append, List.nil_append]
  go_enter Tryz.func63, Tryz.ntmps63
  go_wp2_with fail
  refine (addb_ok w' HB.out HS.out hl).mono ?_
  rintro e w1 ⟨rfl, hb, hfr⟩
  go_wp2_with fail
  go_end0
  exact ⟨rfl, hb, hfr⟩

set_option maxRecDepth 100000 in
set_option maxHeartbeats 1000000 in
theorem ec_7 {base q : Nat} (w : World) : Emits base q 64 #[] (en 1 1 ++ en 2 0 ++ en 2 0) w := by
  intro c off pl bs w' hk hf hB hl
  have HB := Lib.hid hB
  have hl2 : bs.length + 1 + 2 + 2 ≤ 70368744177664 := by simp only [List.length_append, en_length] at hl; omega
  clear hk hf hB hl
  simp only [List.append_toArray, List.append_nil]
  go_enter Tryz.func64, Tryz.ntmps64
  go_wp2_with fail
  refine (add8_ok 1 w' (by omega) (by omega) HB.out (by omega)).mono ?_
  rintro e w1 ⟨rfl, hb, hfr⟩
  have HB1 : Hid (BAt w1 base c off pl (.pointer (some ⟨q, 0, none⟩)) (bs ++ en 1 1)) := Lib.hid hb
  have HFR1 := Lib.hid hfr
  clear hb hfr
  go_wp2_with fail
  refine (add16_ok 0 w1 (by omega) (by omega) HB1.out (by simp only [List.length_append, en_length]; omega)).mono ?_
  rintro e w2 ⟨rfl, hb, hfr⟩
  have HB2 : Hid (BAt w2 base c off pl (.pointer (some ⟨q, 0, none⟩)) (bs ++ en 1 1 ++ en 2 0)) := Lib.hid hb
  have HFR2 := Lib.hid (HFR1.out.trans hfr)
  clear hb hfr
  go_wp2_with fail
  refine (add16_ok 0 w2 (by omega) (by omega) HB2.out (by simp only [List.length_append, en_length]; omega)).mono ?_
  rintro e w3 ⟨rfl, hb, hfr⟩
  have HB3 : Hid (BAt w3 base c off pl (.pointer (some ⟨q, 0, none⟩)) (bs ++ en 1 1 ++ en 2 0 ++ en 2 0)) := Lib.hid hb
  have HFR3 := Lib.hid (HFR2.out.trans hfr)
  clear hb hfr
  go_wp2_with fail
  go_end0
  exact ⟨rfl, by have h := HB3.out; simpa only [List.append_assoc] using h, HFR3.out⟩

set_option maxRecDepth 100000 in
set_option maxHeartbeats 1000000 in
theorem ec_8a {base q x m : Nat} {f : CH} (w : World) (hM : MsgC w base x m (chS f)) (hbq : base ≤ q) (hst : ∀ x ∈ f.curves, x < 65536) (hn : f.curves.length ≤ 2147483647) : Emits base q 66 #[.pointer (some ⟨x, 0, none⟩)] (wnums 2 f.curves) w := by
  intro c off pl bs w' hk hf hB hl
  have hM' := hM.ks hk hbq
  have HM := Lib.hid hM'
  have HB := Lib.hid hB
  have HF := Lib.hid hf
  have cx := hM'.cell
  obtain ⟨vl, hvl, hls⟩ := hM'.at (i := 8) rfl
  obtain ⟨ad, cap, rfl, hx⟩ := RowS.len hls
  rw [List.length_map] at hx hls hvl
  have HS := Lib.hid hls
  have HL := Lib.hid hl
  have hql := lt_of_heap hf
  clear hk hf hB hM hM' hls hl
  simp only [List.append_toArray, List.cons_append, List.nil_append]
  go_enter Tryz.func66, Tryz.ntmps66
  go_wp2_with fail
  go_loopw [10] (fun i wr => ∃ j : Nat, j ≤ (f.curves).length ∧ i = .int .i64 j ∧ BAt wr base c off pl (.pointer (some ⟨q, 0, none⟩)) (bs ++ wnums 2 ((f.curves).take j)) ∧ Flag wr q true ∧ Fr base c w' wr ∧ RowS wr base 23 (.slice ad f.curves.length cap) (f.curves.map fun n => Value.int .u16 (n : Nat))) (fun i _ => (f.curves).length - (intOf i).toNat)
  case atStart => exact ⟨0, by omega, rfl, by simpa [wnums] using HB.out, HF.out, Fr.refl _ _ _, HS.out⟩
  case round =>
    obtain ⟨j, hj, rfl, hb, hfl, hfr, hsl⟩ := hrel
    have HBr := Lib.hid hb
    have HFr := Lib.hid hfl
    have HFRr := Lib.hid hfr
    have HSr := Lib.hid hsl
    clear hb hfl hfr
    by_cases hjn : j < (f.curves).length
    · obtain ⟨px, rfl⟩ := hx (by omega)
      obtain ⟨y, hy⟩ : ∃ y, y = f.curves[j] := ⟨_, rfl⟩
      have hu : wr.cell? ⟨px, j, none⟩ = some (.int .u16 (y : Nat)) := RowS.at hsl (by simp [hjn, hy])
      have hyb : y < 65536 := by rw [hy]; exact hst _ (List.getElem_mem hjn)
      have HT : Hid (f.curves.take j ++ [y] = f.curves.take (j + 1)) := Lib.hid (by rw [List.take_succ_eq_append_getElem hjn, hy])
      have hb1 : (bs ++ wnums 2 (f.curves.take j)).length + 2 ≤ 70368744177664 := by
        have h1 := HL.out
        have h2 := wnums_le (L := f.curves) (j + 1)
        rw [← HT.out, wnums_snoc] at h2
        simp only [List.length_append, en_length] at h1 h2 ⊢
        omega
      clear hsl hy
      go_wp2_with fail
      refine (add16_ok _ wr (by omega) (by omega) HBr.out hb1).mono ?_
      rintro e w2 ⟨rfl, hb2, hfr2⟩
      have hK : Ks base q wr w2 := Ks.of_fr hfr2 (.inr HBr.out.isBld)
      have HF2 := Lib.hid (hfr2.flag HFr.out (HBr.out.ne_flag HFr.out))
      have HS2 := Lib.hid (RowS.ks HSr.out (by decide) hK hbq)
      have HB2 : Hid (BAt w2 base c off pl (.pointer (some ⟨q, 0, none⟩)) (bs ++ wnums 2 (f.curves.take (j + 1)))) := Lib.hid (by rw [← HT.out, wnums_snoc]; simpa only [List.append_assoc, Int.toNat_natCast] using hb2)
      have HFR2 := Lib.hid (HFRr.out.trans hfr2)
      clear hb2 hfr2 hK
      go_wp2_with fail
      exact ⟨⟨j + 1, by omega, by simp, HB2.out, HF2.out, HFR2.out, HS2.out⟩, by simp [intOf]; omega⟩
    · have hjn' : j = (f.curves).length := by omega
      subst hjn'
      have hb := HBr.out
      rw [List.take_length] at hb
      have HBx := Lib.hid hb
      clear hsl hb
      go_wp2_with fail
      go_end0
      exact ⟨rfl, HBx.out, HFRr.out⟩

set_option maxRecDepth 100000 in
set_option maxHeartbeats 1000000 in
theorem ec_8 {base q x m : Nat} {f : CH} (w : World) (hM : MsgC w base x m (chS f)) (hbq : base ≤ q) (hst : ∀ x ∈ f.curves, x < 65536) (hn : f.curves.length ≤ 2147483647) (ho : (wnums 2 f.curves).length < 65536) : Emits base q 65 #[.pointer (some ⟨x, 0, none⟩)] (en 2 (wnums 2 f.curves).length ++ (wnums 2 f.curves)) w := by
  intro c off pl bs w' hk hf hB hl
  have hM' := hM.ks hk hbq
  have HM := Lib.hid hM'
  have HB := Lib.hid hB
  have HF := Lib.hid hf
  have cx := hM'.cell
  have hl2 : bs.length + 2 + (wnums 2 f.curves).length ≤ 70368744177664 := by rw [List.length_append, en_length] at hl; omega
  clear hk hf hB hM hM' hl
  simp only [List.append_toArray, List.cons_append, List.nil_append]
  go_enter Tryz.func65, Tryz.ntmps65
  go_wp2_with fail
  refine (lp2_flag (out := wnums 2 f.curves) w' ho HB.out HF.out hl2 (enter_of Tryz.func66 (by kernel_rfl) (by kernel_rfl)) (ec_8a w' HM.out hbq hst hn)).mono ?_
  rintro e w1 ⟨rfl, hb, hfr⟩
  have HB1 := Lib.hid hb
  have HFR := Lib.hid hfr
  clear hb hfr
  go_wp2_with fail
  go_end0
  exact ⟨rfl, by have h := HB1.out; simpa only [List.append_assoc] using h, HFR.out⟩

set_option maxRecDepth 100000 in
set_option maxHeartbeats 1000000 in
theorem ec_9a {base q x m : Nat} {f : CH} (w : World) (hM : MsgC w base x m (chS f)) (hbq : base ≤ q) (hst : ∀ x ∈ f.sigs, x < 65536) (hn : f.sigs.length ≤ 2147483647) : Emits base q 68 #[.pointer (some ⟨x, 0, none⟩)] (wnums 2 f.sigs) w := by
  intro c off pl bs w' hk hf hB hl
  have hM' := hM.ks hk hbq
  have HM := Lib.hid hM'
  have HB := Lib.hid hB
  have HF := Lib.hid hf
  have cx := hM'.cell
  obtain ⟨vl, hvl, hls⟩ := hM'.at (i := 12) rfl
  obtain ⟨ad, cap, rfl, hx⟩ := RowS.len hls
  rw [List.length_map] at hx hls hvl
  have HS := Lib.hid hls
  have HL := Lib.hid hl
  have hql := lt_of_heap hf
  clear hk hf hB hM hM' hls hl
  simp only [List.append_toArray, List.cons_append, List.nil_append]
  go_enter Tryz.func68, Tryz.ntmps68
  go_wp2_with fail
  go_loopw [10] (fun i wr => ∃ j : Nat, j ≤ (f.sigs).length ∧ i = .int .i64 j ∧ BAt wr base c off pl (.pointer (some ⟨q, 0, none⟩)) (bs ++ wnums 2 ((f.sigs).take j)) ∧ Flag wr q true ∧ Fr base c w' wr ∧ RowS wr base 23 (.slice ad f.sigs.length cap) (f.sigs.map fun n => Value.int .u16 (n : Nat))) (fun i _ => (f.sigs).length - (intOf i).toNat)
  case atStart => exact ⟨0, by omega, rfl, by simpa [wnums] using HB.out, HF.out, Fr.refl _ _ _, HS.out⟩
  case round =>
    obtain ⟨j, hj, rfl, hb, hfl, hfr, hsl⟩ := hrel
    have HBr := Lib.hid hb
    have HFr := Lib.hid hfl
    have HFRr := Lib.hid hfr
    have HSr := Lib.hid hsl
    clear hb hfl hfr
    by_cases hjn : j < (f.sigs).length
    · obtain ⟨px, rfl⟩ := hx (by omega)
      obtain ⟨y, hy⟩ : ∃ y, y = f.sigs[j] := ⟨_, rfl⟩
      have hu : wr.cell? ⟨px, j, none⟩ = some (.int .u16 (y : Nat)) := RowS.at hsl (by simp [hjn, hy])
      have hyb : y < 65536 := by rw [hy]; exact hst _ (List.getElem_mem hjn)
      have HT : Hid (f.sigs.take j ++ [y] = f.sigs.take (j + 1)) := Lib.hid (by rw [List.take_succ_eq_append_getElem hjn, hy])
      have hb1 : (bs ++ wnums 2 (f.sigs.take j)).length + 2 ≤ 70368744177664 := by
        have h1 := HL.out
        have h2 := wnums_le (L := f.sigs) (j + 1)
        rw [← HT.out, wnums_snoc] at h2
        simp only [List.length_append, en_length] at h1 h2 ⊢
        omega
      clear hsl hy
      go_wp2_with fail
      refine (add16_ok _ wr (by omega) (by omega) HBr.out hb1).mono ?_
      rintro e w2 ⟨rfl, hb2, hfr2⟩
      have hK : Ks base q wr w2 := Ks.of_fr hfr2 (.inr HBr.out.isBld)
      have HF2 := Lib.hid (hfr2.flag HFr.out (HBr.out.ne_flag HFr.out))
      have HS2 := Lib.hid (RowS.ks HSr.out (by decide) hK hbq)
      have HB2 : Hid (BAt w2 base c off pl (.pointer (some ⟨q, 0, none⟩)) (bs ++ wnums 2 (f.sigs.take (j + 1)))) := Lib.hid (by rw [← HT.out, wnums_snoc]; simpa only [List.append_assoc, Int.toNat_natCast] using hb2)
      have HFR2 := Lib.hid (HFRr.out.trans hfr2)
      clear hb2 hfr2 hK
      go_wp2_with fail
      exact ⟨⟨j + 1, by omega, by simp, HB2.out, HF2.out, HFR2.out, HS2.out⟩, by simp [intOf]; omega⟩
    · have hjn' : j = (f.sigs).length := by omega
      subst hjn'
      have hb := HBr.out
      rw [List.take_length] at hb
      have HBx := Lib.hid hb
      clear hsl hb
      go_wp2_with fail
      go_end0
      exact ⟨rfl, HBx.out, HFRr.out⟩

set_option maxRecDepth 100000 in
set_option maxHeartbeats 1000000 in
theorem ec_9 {base q x m : Nat} {f : CH} (w : World) (hM : MsgC w base x m (chS f)) (hbq : base ≤ q) (hst : ∀ x ∈ f.sigs, x < 65536) (hn : f.sigs.length ≤ 2147483647) (ho : (wnums 2 f.sigs).length < 65536) : Emits base q 67 #[.pointer (some ⟨x, 0, none⟩)] (en 2 (wnums 2 f.sigs).length ++ (wnums 2 f.sigs)) w := by
  intro c off pl bs w' hk hf hB hl
  have hM' := hM.ks hk hbq
  have HM := Lib.hid hM'
  have HB := Lib.hid hB
  have HF := Lib.hid hf
  have cx := hM'.cell
  have hl2 : bs.length + 2 + (wnums 2 f.sigs).length ≤ 70368744177664 := by rw [List.length_append, en_length] at hl; omega
  clear hk hf hB hM hM' hl
  simp only [List.append_toArray, List.cons_append, List.nil_append]
  go_enter Tryz.func67, Tryz.ntmps67
  go_wp2_with fail
  refine (lp2_flag (out := wnums 2 f.sigs) w' ho HB.out HF.out hl2 (enter_of Tryz.func68 (by kernel_rfl) (by kernel_rfl)) (ec_9a w' HM.out hbq hst hn)).mono ?_
  rintro e w1 ⟨rfl, hb, hfr⟩
  have HB1 := Lib.hid hb
  have HFR := Lib.hid hfr
  clear hb hfr
  go_wp2_with fail
  go_end0
  exact ⟨rfl, by have h := HB1.out; simpa only [List.append_assoc] using h, HFR.out⟩

set_option maxRecDepth 100000 in
set_option maxHeartbeats 1000000 in
theorem ec_10a {base q x m : Nat} {f : CH} (w : World) (hM : MsgC w base x m (chS f)) (hbq : base ≤ q) (hst : ∀ x ∈ f.sigsC, x < 65536) (hn : f.sigsC.length ≤ 2147483647) : Emits base q 70 #[.pointer (some ⟨x, 0, none⟩)] (wnums 2 f.sigsC) w := by
  intro c off pl bs w' hk hf hB hl
  have hM' := hM.ks hk hbq
  have HM := Lib.hid hM'
  have HB := Lib.hid hB
  have HF := Lib.hid hf
  have cx := hM'.cell
  obtain ⟨vl, hvl, hls⟩ := hM'.at (i := 13) rfl
  obtain ⟨ad, cap, rfl, hx⟩ := RowS.len hls
  rw [List.length_map] at hx hls hvl
  have HS := Lib.hid hls
  have HL := Lib.hid hl
  have hql := lt_of_heap hf
  clear hk hf hB hM hM' hls hl
  simp only [List.append_toArray, List.cons_append, List.nil_append]
  go_enter Tryz.func70, Tryz.ntmps70
  go_wp2_with fail
  go_loopw [10] (fun i wr => ∃ j : Nat, j ≤ (f.sigsC).length ∧ i = .int .i64 j ∧ BAt wr base c off pl (.pointer (some ⟨q, 0, none⟩)) (bs ++ wnums 2 ((f.sigsC).take j)) ∧ Flag wr q true ∧ Fr base c w' wr ∧ RowS wr base 23 (.slice ad f.sigsC.length cap) (f.sigsC.map fun n => Value.int .u16 (n : Nat))) (fun i _ => (f.sigsC).length - (intOf i).toNat)
  case atStart => exact ⟨0, by omega, rfl, by simpa [wnums] using HB.out, HF.out, Fr.refl _ _ _, HS.out⟩
  case round =>
    obtain ⟨j, hj, rfl, hb, hfl, hfr, hsl⟩ := hrel
    have HBr := Lib.hid hb
    have HFr := Lib.hid hfl
    have HFRr := Lib.hid hfr
    have HSr := Lib.hid hsl
    clear hb hfl hfr
    by_cases hjn : j < (f.sigsC).length
    · obtain ⟨px, rfl⟩ := hx (by omega)
      obtain ⟨y, hy⟩ : ∃ y, y = f.sigsC[j] := ⟨_, rfl⟩
      have hu : wr.cell? ⟨px, j, none⟩ = some (.int .u16 (y : Nat)) := RowS.at hsl (by simp [hjn, hy])
      have hyb : y < 65536 := by rw [hy]; exact hst _ (List.getElem_mem hjn)
      have HT : Hid (f.sigsC.take j ++ [y] = f.sigsC.take (j + 1)) := Lib.hid (by rw [List.take_succ_eq_append_getElem hjn, hy])
      have hb1 : (bs ++ wnums 2 (f.sigsC.take j)).length + 2 ≤ 70368744177664 := by
        have h1 := HL.out
        have h2 := wnums_le (L := f.sigsC) (j + 1)
        rw [← HT.out, wnums_snoc] at h2
        simp only [List.length_append, en_length] at h1 h2 ⊢
        omega
      clear hsl hy
      go_wp2_with fail
      refine (add16_ok _ wr (by omega) (by omega) HBr.out hb1).mono ?_
      rintro e w2 ⟨rfl, hb2, hfr2⟩
      have hK : Ks base q wr w2 := Ks.of_fr hfr2 (.inr HBr.out.isBld)
      have HF2 := Lib.hid (hfr2.flag HFr.out (HBr.out.ne_flag HFr.out))
      have HS2 := Lib.hid (RowS.ks HSr.out (by decide) hK hbq)
      have HB2 : Hid (BAt w2 base c off pl (.pointer (some ⟨q, 0, none⟩)) (bs ++ wnums 2 (f.sigsC.take (j + 1)))) := Lib.hid (by rw [← HT.out, wnums_snoc]; simpa only [List.append_assoc, Int.toNat_natCast] using hb2)
      have HFR2 := Lib.hid (HFRr.out.trans hfr2)
      clear hb2 hfr2 hK
      go_wp2_with fail
      exact ⟨⟨j + 1, by omega, by simp, HB2.out, HF2.out, HFR2.out, HS2.out⟩, by simp [intOf]; omega⟩
    · have hjn' : j = (f.sigsC).length := by omega
      subst hjn'
      have hb := HBr.out
      rw [List.take_length] at hb
      have HBx := Lib.hid hb
      clear hsl hb
      go_wp2_with fail
      go_end0
      exact ⟨rfl, HBx.out, HFRr.out⟩

set_option maxRecDepth 100000 in
set_option maxHeartbeats 1000000 in
theorem ec_10 {base q x m : Nat} {f : CH} (w : World) (hM : MsgC w base x m (chS f)) (hbq : base ≤ q) (hst : ∀ x ∈ f.sigsC, x < 65536) (hn : f.sigsC.length ≤ 2147483647) (ho : (wnums 2 f.sigsC).length < 65536) : Emits base q 69 #[.pointer (some ⟨x, 0, none⟩)] (en 2 (wnums 2 f.sigsC).length ++ (wnums 2 f.sigsC)) w := by
  intro c off pl bs w' hk hf hB hl
  have hM' := hM.ks hk hbq
  have HM := Lib.hid hM'
  have HB := Lib.hid hB
  have HF := Lib.hid hf
  have cx := hM'.cell
  have hl2 : bs.length + 2 + (wnums 2 f.sigsC).length ≤ 70368744177664 := by rw [List.length_append, en_length] at hl; omega
  clear hk hf hB hM hM' hl
  simp only [List.append_toArray, List.cons_append, List.nil_append]
  go_enter Tryz.func69, Tryz.ntmps69
  go_wp2_with fail
  refine (lp2_flag (out := wnums 2 f.sigsC) w' ho HB.out HF.out hl2 (enter_of Tryz.func70 (by kernel_rfl) (by kernel_rfl)) (ec_10a w' HM.out hbq hst hn)).mono ?_
  rintro e w1 ⟨rfl, hb, hfr⟩
  have HB1 := Lib.hid hb
  have HFR := Lib.hid hfr
  clear hb hfr
  go_wp2_with fail
  go_end0
  exact ⟨rfl, by have h := HB1.out; simpa only [List.append_assoc] using h, HFR.out⟩

set_option maxRecDepth 100000 in
set_option maxHeartbeats 1000000 in
theorem ec_11v {base q x : Nat} {s : List UInt8} (w : World) (hx : w.heap[x]? = some (.cells #[.string ⟨s.toArray⟩] 9 (0, 0))) (hxq : x ≠ q) :
    Emits base q 73 #[.pointer (some ⟨x, 0, none⟩)] s w := by
  intro c off pl bs w' hk hf hB hl
  have c1 := cell_head (hk.other hx (by decide) hxq)
  have HB := Lib.hid hB
  clear hk hf hB hx
  obtain ⟨u, wc, hcv, hsu, hbu, hfu⟩ := conv_str w' s
  have HBC := Lib.hid (hbu _ _ _ _ _ _ HB.out)
  have HFU := Lib.hid hfu
  have HSU := Lib.hid hsu
  clear hsu hbu hfu
  simp only [List.append_toArray, List.cons_append, List.nil_append]
  go_enter Tryz.func73, Tryz.ntmps73
  go_wp2_with fail
  refine (addb_ok wc HBC.out HSU.out hl).mono ?_
  rintro e w1 ⟨rfl, hb, hfr⟩
  go_wp2_with fail
  go_end0
  exact ⟨rfl, hb, (HFU.out _ _).trans hfr⟩

set_option maxRecDepth 100000 in
set_option maxHeartbeats 1000000 in
theorem ec_11a {base q x m : Nat} {f : CH} (w : World) (hM : MsgC w base x m (chS f)) (hbq : base ≤ q) (hst : ∀ x ∈ f.alpn, x.length < 256) (hn : f.alpn.length ≤ 2147483647) : Emits base q 72 #[.pointer (some ⟨x, 0, none⟩)] (vecs 1 f.alpn) w := by
  intro c off pl bs w' hk hf hB hl
  have hM' := hM.ks hk hbq
  have HM := Lib.hid hM'
  have HB := Lib.hid hB
  have HF := Lib.hid hf
  have cx := hM'.cell
  obtain ⟨vl, hvl, hls⟩ := hM'.at (i := 17) rfl
  obtain ⟨ad, cap, rfl, hx⟩ := RowS.len hls
  rw [List.length_map] at hx hls hvl
  have HS := Lib.hid hls
  have HL := Lib.hid hl
  have hql := lt_of_heap hf
  clear hk hf hB hM hM' hls hl
  simp only [List.append_toArray, List.cons_append, List.nil_append]
  go_enter Tryz.func72, Tryz.ntmps72
  go_wp2_with fail
  go_loopw [10] (fun i wr => ∃ j : Nat, j ≤ (f.alpn).length ∧ i = .int .i64 j ∧ BAt wr base c off pl (.pointer (some ⟨q, 0, none⟩)) (bs ++ vecs 1 ((f.alpn).take j)) ∧ Flag wr q true ∧ Fr base c w' wr ∧ RowS wr base 9 (.slice ad f.alpn.length cap) (f.alpn.map fun s => Value.string ⟨s.toArray⟩)) (fun i _ => (f.alpn).length - (intOf i).toNat)
  case atStart => exact ⟨0, by omega, rfl, by simpa [vecs] using HB.out, HF.out, Fr.refl _ _ _, HS.out⟩
  case round =>
    obtain ⟨j, hj, rfl, hb, hfl, hfr, hsl⟩ := hrel
    have HBr := Lib.hid hb
    have HFr := Lib.hid hfl
    have HFRr := Lib.hid hfr
    have HSr := Lib.hid hsl
    clear hb hfl hfr
    by_cases hjn : j < (f.alpn).length
    · obtain ⟨px, rfl⟩ := hx (by omega)
      obtain ⟨X, hX⟩ : ∃ y, y = f.alpn[j] := ⟨_, rfl⟩
      have hu : wr.cell? ⟨px, j, none⟩ = some (.string ⟨X.toArray⟩) := RowS.at hsl (by simp [hjn, hX])
      have hxl : X.length < 256 := by rw [hX]; exact hst _ (List.getElem_mem hjn)
      have HT : Hid (f.alpn.take j ++ [X] = f.alpn.take (j + 1)) := Lib.hid (by rw [List.take_succ_eq_append_getElem hjn, hX])
      have HB1 : Hid ((bs ++ vecs 1 (f.alpn.take j)).length + 1 + X.length ≤ 70368744177664) := Lib.hid (by
        have h1 := HL.out
        have h2 := vecs_le (k := 1) f.alpn (j + 1)
        rw [← HT.out, vecs_snoc] at h2
        simp only [List.length_append, en_length] at h1 h2 ⊢
        omega)
      clear hsl hX
      go_wp2_with fail
      obtain ⟨xB, hxB⟩ : ∃ x, x = wr.heap.size := ⟨_, rfl⟩
      obtain ⟨wA, hwA⟩ : ∃ x, x = wr.alloc (.cells #[.string ⟨X.toArray⟩] 9) := ⟨_, rfl⟩
      rw [← hxB, ← hwA]
      have hxq : xB ≠ q := by have := lt_of_heap HFr.out; omega
      have hnew : wA.heap[xB]? = some (.cells #[.string ⟨X.toArray⟩] 9 (0, 0)) := by rw [hwA, hxB]; exact heap_alloc_new _ _
      have hkA : Ks base q wr wA := by rw [hwA]; exact (Ks.refl _ _ _).alloc _
      have HBA : Hid (BAt wA base c off pl (.pointer (some ⟨q, 0, none⟩)) (bs ++ vecs 1 (f.alpn.take j))) := Lib.hid (by rw [hwA]; exact HBr.out.alloc _)
      have HFA : Hid (Flag wA q true) := Lib.hid (by rw [hwA]; exact (Below.heap_alloc _ _ _ (lt_of_heap HFr.out)).trans HFr.out)
      have HFRA : Hid (Fr base c w' wA) := Lib.hid (by rw [hwA]; exact HFRr.out.alloc _)
      have HSA := Lib.hid (RowS.ks HSr.out (by decide) hkA hbq)
      have HE := Lib.hid (ec_11v (base := base) wA hnew hxq)
      clear hxB hwA hxq hnew hkA
      refine (lp1_flag (out := X) wA hxl HBA.out HFA.out HB1.out (enter_of Tryz.func73 (by kernel_rfl) (by kernel_rfl)) HE.out).mono ?_
      rintro e w2 ⟨rfl, hb2, hfr2⟩
      have hK : Ks base q wA w2 := Ks.of_fr hfr2 (.inr HBA.out.isBld)
      have HB2 := Lib.hid hb2
      have HFR2 := Lib.hid hfr2
      have HF2 := Lib.hid (hfr2.flag HFA.out (HBA.out.ne_flag HFA.out))
      have HS2 := Lib.hid (RowS.ks HSA.out (by decide) hK hbq)
      clear hb2 hfr2 hK
      go_wp2_with fail
      refine ⟨⟨j + 1, by omega, by simp, ?_, HF2.out, HFRA.out.trans HFR2.out, HS2.out⟩, by simp [intOf]; omega⟩
      rw [← HT.out, vecs_snoc]
      have h := HB2.out
      simpa only [List.append_assoc] using h
    · have hjn' : j = (f.alpn).length := by omega
      subst hjn'
      have hb := HBr.out
      rw [List.take_length] at hb
      have HBx := Lib.hid hb
      clear hsl hb
      go_wp2_with fail
      go_end0
      exact ⟨rfl, HBx.out, HFRr.out⟩

set_option maxRecDepth 100000 in
set_option maxHeartbeats 1000000 in
theorem ec_11 {base q x m : Nat} {f : CH} (w : World) (hM : MsgC w base x m (chS f)) (hbq : base ≤ q) (hst : ∀ x ∈ f.alpn, x.length < 256) (hn : f.alpn.length ≤ 2147483647) (ho : (vecs 1 f.alpn).length < 65536) : Emits base q 71 #[.pointer (some ⟨x, 0, none⟩)] (en 2 (vecs 1 f.alpn).length ++ (vecs 1 f.alpn)) w := by
  intro c off pl bs w' hk hf hB hl
  have hM' := hM.ks hk hbq
  have HM := Lib.hid hM'
  have HB := Lib.hid hB
  have HF := Lib.hid hf
  have cx := hM'.cell
  have hl2 : bs.length + 2 + (vecs 1 f.alpn).length ≤ 70368744177664 := by rw [List.length_append, en_length] at hl; omega
  clear hk hf hB hM hM' hl
  simp only [List.append_toArray, List.cons_append, List.nil_append]
  go_enter Tryz.func71, Tryz.ntmps71
  go_wp2_with fail
  refine (lp2_flag (out := vecs 1 f.alpn) w' ho HB.out HF.out hl2 (enter_of Tryz.func72 (by kernel_rfl) (by kernel_rfl)) (ec_11a w' HM.out hbq hst hn)).mono ?_
  rintro e w1 ⟨rfl, hb, hfr⟩
  have HB1 := Lib.hid hb
  have HFR := Lib.hid hfr
  clear hb hfr
  go_wp2_with fail
  go_end0
  exact ⟨rfl, by have h := HB1.out; simpa only [List.append_assoc] using h, HFR.out⟩

set_option maxRecDepth 100000 in
set_option maxHeartbeats 1000000 in
theorem ec_12a {base q x m : Nat} {f : CH} (w : World) (hM : MsgC w base x m (chS f)) (hbq : base ≤ q) (hst : ∀ x ∈ f.vers13, x < 65536) (hn : f.vers13.length ≤ 2147483647) : Emits base q 75 #[.pointer (some ⟨x, 0, none⟩)] (wnums 2 f.vers13) w := by
  intro c off pl bs w' hk hf hB hl
  have hM' := hM.ks hk hbq
  have HM := Lib.hid hM'
  have HB := Lib.hid hB
  have HF := Lib.hid hf
  have cx := hM'.cell
  obtain ⟨vl, hvl, hls⟩ := hM'.at (i := 19) rfl
  obtain ⟨ad, cap, rfl, hx⟩ := RowS.len hls
  rw [List.length_map] at hx hls hvl
  have HS := Lib.hid hls
  have HL := Lib.hid hl
  have hql := lt_of_heap hf
  clear hk hf hB hM hM' hls hl
  simp only [List.append_toArray, List.cons_append, List.nil_append]
  go_enter Tryz.func75, Tryz.ntmps75
  go_wp2_with fail
  go_loopw [10] (fun i wr => ∃ j : Nat, j ≤ (f.vers13).length ∧ i = .int .i64 j ∧ BAt wr base c off pl (.pointer (some ⟨q, 0, none⟩)) (bs ++ wnums 2 ((f.vers13).take j)) ∧ Flag wr q true ∧ Fr base c w' wr ∧ RowS wr base 23 (.slice ad f.vers13.length cap) (f.vers13.map fun n => Value.int .u16 (n : Nat))) (fun i _ => (f.vers13).length - (intOf i).toNat)
  case atStart => exact ⟨0, by omega, rfl, by simpa [wnums] using HB.out, HF.out, Fr.refl _ _ _, HS.out⟩
  case round =>
    obtain ⟨j, hj, rfl, hb, hfl, hfr, hsl⟩ := hrel
    have HBr := Lib.hid hb
    have HFr := Lib.hid hfl
    have HFRr := Lib.hid hfr
    have HSr := Lib.hid hsl
    clear hb hfl hfr
    by_cases hjn : j < (f.vers13).length
    · obtain ⟨px, rfl⟩ := hx (by omega)
      obtain ⟨y, hy⟩ : ∃ y, y = f.vers13[j] := ⟨_, rfl⟩
      have hu : wr.cell? ⟨px, j, none⟩ = some (.int .u16 (y : Nat)) := RowS.at hsl (by simp [hjn, hy])
      have hyb : y < 65536 := by rw [hy]; exact hst _ (List.getElem_mem hjn)
      have HT : Hid (f.vers13.take j ++ [y] = f.vers13.take (j + 1)) := Lib.hid (by rw [List.take_succ_eq_append_getElem hjn, hy])
      have hb1 : (bs ++ wnums 2 (f.vers13.take j)).length + 2 ≤ 70368744177664 := by
        have h1 := HL.out
        have h2 := wnums_le (L := f.vers13) (j + 1)
        rw [← HT.out, wnums_snoc] at h2
        simp only [List.length_append, en_length] at h1 h2 ⊢
        omega
      clear hsl hy
      go_wp2_with fail
      refine (add16_ok _ wr (by omega) (by omega) HBr.out hb1).mono ?_
      rintro e w2 ⟨rfl, hb2, hfr2⟩
      have hK : Ks base q wr w2 := Ks.of_fr hfr2 (.inr HBr.out.isBld)
      have HF2 := Lib.hid (hfr2.flag HFr.out (HBr.out.ne_flag HFr.out))
      have HS2 := Lib.hid (RowS.ks HSr.out (by decide) hK hbq)
      have HB2 : Hid (BAt w2 base c off pl (.pointer (some ⟨q, 0, none⟩)) (bs ++ wnums 2 (f.vers13.take (j + 1)))) := Lib.hid (by rw [← HT.out, wnums_snoc]; simpa only [List.append_assoc, Int.toNat_natCast] using hb2)
      have HFR2 := Lib.hid (HFRr.out.trans hfr2)
      clear hb2 hfr2 hK
      go_wp2_with fail
      exact ⟨⟨j + 1, by omega, by simp, HB2.out, HF2.out, HFR2.out, HS2.out⟩, by simp [intOf]; omega⟩
    · have hjn' : j = (f.vers13).length := by omega
      subst hjn'
      have hb := HBr.out
      rw [List.take_length] at hb
      have HBx := Lib.hid hb
      clear hsl hb
      go_wp2_with fail
      go_end0
      exact ⟨rfl, HBx.out, HFRr.out⟩

set_option maxRecDepth 100000 in
set_option maxHeartbeats 1000000 in
theorem ec_12 {base q x m : Nat} {f : CH} (w : World) (hM : MsgC w base x m (chS f)) (hbq : base ≤ q) (hst : ∀ x ∈ f.vers13, x < 65536) (hn : f.vers13.length ≤ 2147483647) (ho : (wnums 2 f.vers13).length < 256) : Emits base q 74 #[.pointer (some ⟨x, 0, none⟩)] (en 1 (wnums 2 f.vers13).length ++ (wnums 2 f.vers13)) w := by
  intro c off pl bs w' hk hf hB hl
  have hM' := hM.ks hk hbq
  have HM := Lib.hid hM'
  have HB := Lib.hid hB
  have HF := Lib.hid hf
  have cx := hM'.cell
  have hl2 : bs.length + 1 + (wnums 2 f.vers13).length ≤ 70368744177664 := by rw [List.length_append, en_length] at hl; omega
  clear hk hf hB hM hM' hl
  simp only [List.append_toArray, List.cons_append, List.nil_append]
  go_enter Tryz.func74, Tryz.ntmps74
  go_wp2_with fail
  refine (lp1_flag (out := wnums 2 f.vers13) w' ho HB.out HF.out hl2 (enter_of Tryz.func75 (by kernel_rfl) (by kernel_rfl)) (ec_12a w' HM.out hbq hst hn)).mono ?_
  rintro e w1 ⟨rfl, hb, hfr⟩
  have HB1 := Lib.hid hb
  have HFR := Lib.hid hfr
  clear hb hfr
  go_wp2_with fail
  go_end0
  exact ⟨rfl, by have h := HB1.out; simpa only [List.append_assoc] using h, HFR.out⟩

set_option maxRecDepth 100000 in
set_option maxHeartbeats 1000000 in
theorem ec_13a {base q x m : Nat} {f : CH} (w : World) (hM : MsgC w base x m (chS f)) (hbq : base ≤ q) : Emits base q 77 #[.pointer (some ⟨x, 0, none⟩)] (f.cookie) w := by
  intro c off pl bs w' hk hf hB hl
  have hM' := hM.ks hk hbq
  have HM := Lib.hid hM'
  have HB := Lib.hid hB
  have HF := Lib.hid hf
  have cx := hM'.cell
  obtain ⟨v, hv, hs⟩ := hM'.at (i := 20) rfl
  have HS := Lib.hid (SrcB.src hs)
  clear hk hf hB hM hM' hs
  simp only [List.append_toArray, List.cons_append, List.nil_append]
  go_enter Tryz.func77, Tryz.ntmps77
  go_wp2_with fail
  refine (addb_ok w' HB.out HS.out hl).mono ?_
  rintro e w1 ⟨rfl, hb, hfr⟩
  go_wp2_with fail
  go_end0
  exact ⟨rfl, hb, hfr⟩

set_option maxRecDepth 100000 in
set_option maxHeartbeats 1000000 in
theorem ec_13 {base q x m : Nat} {f : CH} (w : World) (hM : MsgC w base x m (chS f)) (hbq : base ≤ q) (ho : (f.cookie).length < 65536) : Emits base q 76 #[.pointer (some ⟨x, 0, none⟩)] (en 2 (f.cookie).length ++ (f.cookie)) w := by
  intro c off pl bs w' hk hf hB hl
  have hM' := hM.ks hk hbq
  have HM := Lib.hid hM'
  have HB := Lib.hid hB
  have HF := Lib.hid hf
  have cx := hM'.cell
  have hl2 : bs.length + 2 + (f.cookie).length ≤ 70368744177664 := by rw [List.length_append, en_length] at hl; omega
  clear hk hf hB hM hM' hl
  simp only [List.append_toArray, List.cons_append, List.nil_append]
  go_enter Tryz.func76, Tryz.ntmps76
  go_wp2_with fail
  refine (lp2_flag (out := f.cookie) w' ho HB.out HF.out hl2 (enter_of Tryz.func77 (by kernel_rfl) (by kernel_rfl)) (ec_13a w' HM.out hbq )).mono ?_
  rintro e w1 ⟨rfl, hb, hfr⟩
  have HB1 := Lib.hid hb
  have HFR := Lib.hid hfr
  clear hb hfr
  go_wp2_with fail
  go_end0
  exact ⟨rfl, by have h := HB1.out; simpa only [List.append_assoc] using h, HFR.out⟩

theorem ec_14v {base q x : Nat} {v u : Value} {s : List UInt8} (w : World) (hx : w.heap[x]? = some (.cells #[u, v] 56 (0, 0))) (hs : SrcB w base v s) (hxq : x ≠ q) (hbq : base ≤ q) :
    Emits base q 80 #[.pointer (some ⟨x, 0, none⟩)] s w := by
  intro c off pl bs w' hk hf hB hl
  have hx' := hk.other hx (by decide) hxq
  have c1 : w'.cell? ⟨x, 1, none⟩ = some v := by rw [cell_of_heap hx']; rfl
  have HS := Lib.hid (hs.ks hk hbq).src
  have HB := Lib.hid hB
  clear hk hf hB hx hs hx'
  simp only [List.append_toArray, List.cons_append, List.nil_append]
  go_enter Tryz.func80, Tryz.ntmps80
  go_wp2_with fail
  refine (addb_ok w' HB.out HS.out hl).mono ?_
  rintro e w1 ⟨rfl, hb, hfr⟩
  go_wp2_with fail
  go_end0
  exact ⟨rfl, hb, hfr⟩

set_option maxRecDepth 100000 in
set_option maxHeartbeats 1000000 in
theorem ec_14a {base q x m : Nat} {f : CH} (w : World) (hM : MsgC w base x m (chS f)) (hbq : base ≤ q) (hst : ∀ x ∈ f.shares, x.1 < 65536 ∧ x.2.length < 65536) (hn : f.shares.length ≤ 2147483647) : Emits base q 79 #[.pointer (some ⟨x, 0, none⟩)] (wshr f.shares) w := by
  intro c off pl bs w' hk hf hB hl
  have hM' := hM.ks hk hbq
  have HM := Lib.hid hM'
  have HB := Lib.hid hB
  have HF := Lib.hid hf
  have cx := hM'.cell
  obtain ⟨vl, hvl, hls⟩ := hM'.at (i := 21) rfl
  obtain ⟨ad, cap, rfl, hx⟩ : ∃ ad cap, vl = .slice ad f.shares.length cap ∧ (0 < f.shares.length → ∃ x, ad = some ⟨x, 0, none⟩) := by
    rcases hls with ⟨rfl, h0⟩ | ⟨p, cap, cur, rfl, _⟩
    · exact ⟨none, 0, by rw [h0]; rfl, fun h => by rw [h0] at h; simp at h⟩
    · exact ⟨_, cap, rfl, fun _ => ⟨_, rfl⟩⟩
  have HS := Lib.hid hls
  have HL := Lib.hid hl
  have hql := lt_of_heap hf
  clear hk hf hB hM hM' hls hl
  simp only [List.append_toArray, List.cons_append, List.nil_append]
  go_enter Tryz.func79, Tryz.ntmps79
  go_wp2_with fail
  go_loopw [10] (fun i wr => ∃ j : Nat, j ≤ (f.shares).length ∧ i = .int .i64 j ∧ BAt wr base c off pl (.pointer (some ⟨q, 0, none⟩)) (bs ++ wshr ((f.shares).take j)) ∧ Flag wr q true ∧ Fr base c w' wr ∧ ShrS wr base (.slice ad f.shares.length cap) f.shares) (fun i _ => (f.shares).length - (intOf i).toNat)
  case atStart => exact ⟨0, by omega, rfl, by simpa [wshr] using HB.out, HF.out, Fr.refl _ _ _, HS.out⟩
  case round =>
    obtain ⟨j, hj, rfl, hb, hfl, hfr, hsl⟩ := hrel
    have HBr := Lib.hid hb
    have HFr := Lib.hid hfl
    have HFRr := Lib.hid hfr
    have HSr := Lib.hid hsl
    clear hb hfl hfr
    by_cases hjn : j < (f.shares).length
    · obtain ⟨px, rfl⟩ := hx (by omega)
      obtain ⟨X, hX⟩ : ∃ y, y = f.shares[j] := ⟨_, rfl⟩
      obtain ⟨q0, u, q1, hsrc⟩ : wr.cell? ⟨px, j * 2, none⟩ = some (.int .u16 (X.1 : Nat)) ∧ ∃ u, wr.cell? ⟨px, j * 2 + 1, none⟩ = some u ∧ SrcB wr base u X.2 := by
        rcases hsl with ⟨e, _⟩ | ⟨p, cp, cur, e, _, hh, hc⟩
        · cases e
        · simp only [Value.slice.injEq, Option.some.injEq, Addr.mk.injEq, and_true] at e
          obtain ⟨rfl, _, _⟩ := e
          obtain ⟨h1, u, h2, h3⟩ := hc j X (by rw [hX]; exact List.getElem?_eq_getElem hjn)
          rw [cell_of_heap hh, cell_of_heap hh, Nat.mul_comm j 2]
          exact ⟨h1, u, h2, h3⟩
      obtain ⟨hx1, hx2⟩ : X.1 < 65536 ∧ X.2.length < 65536 := by rw [hX]; exact hst _ (List.getElem_mem hjn)
      obtain ⟨au, cu, rfl⟩ := hsrc.len
      have HT : Hid (f.shares.take j ++ [X] = f.shares.take (j + 1)) := Lib.hid (by rw [List.take_succ_eq_append_getElem hjn, hX])
      obtain ⟨gX, dX⟩ := X
      simp only at q0 q1 hx1 hx2 hsrc
      have HB1 : Hid ((bs ++ wshr (f.shares.take j)).length + 2 + 2 + dX.length ≤ 70368744177664) := Lib.hid (by
        have h1 := HL.out
        have h2 := wshr_le (L := f.shares) (j + 1)
        rw [← HT.out, wshr_snoc] at h2
        simp only [List.length_append, en_length] at h1 h2 ⊢
        omega)
      have HSRC := Lib.hid hsrc
      clear hsl hX hsrc
      go_wp2_with fail
      obtain ⟨xB, hxB⟩ : ∃ x, x = wr.heap.size := ⟨_, rfl⟩
      obtain ⟨wA, hwA⟩ : ∃ x, x = wr.alloc (.cells #[.int .u16 (gX : Nat), .slice au dX.length cu] 56) := ⟨_, rfl⟩
      rw [← hxB, ← hwA]
      have hxq : xB ≠ q := by have := lt_of_heap HFr.out; omega
      have hnew : wA.heap[xB]? = some (.cells #[.int .u16 (gX : Nat), .slice au dX.length cu] 56 (0, 0)) := by rw [hwA, hxB]; exact heap_alloc_new _ _
      have hkA : Ks base q wr wA := by rw [hwA]; exact (Ks.refl _ _ _).alloc _
      have HBA : Hid (BAt wA base c off pl (.pointer (some ⟨q, 0, none⟩)) (bs ++ wshr (f.shares.take j))) := Lib.hid (by rw [hwA]; exact HBr.out.alloc _)
      have HFA : Hid (Flag wA q true) := Lib.hid (by rw [hwA]; exact (Below.heap_alloc _ _ _ (lt_of_heap HFr.out)).trans HFr.out)
      have HFRA : Hid (Fr base c w' wA) := Lib.hid (by rw [hwA]; exact HFRr.out.alloc _)
      have HSA := Lib.hid ((CRel.ks (cd := .shr f.shares) HSr.out hkA hbq : ShrS _ _ _ _))
      have HVA := Lib.hid (HSRC.out.ks hkA hbq)
      have HNEW := Lib.hid hnew
      have k0 : wA.cell? ⟨xB, 0, none⟩ = some (.int .u16 (gX : Nat)) := by rw [cell_of_heap hnew]; rfl
      clear hxB hwA hnew hkA q0 q1
      try go_wp2_with fail
      refine (add16_ok _ wA (by omega) (by omega) HBA.out (by have h := HB1.out; omega)).mono ?_
      rintro e w1 ⟨rfl, hb1, hfr1⟩
      have hK1 : Ks base q wA w1 := Ks.of_fr hfr1 (.inr HBA.out.isBld)
      have HBB : Hid (BAt w1 base c off pl (.pointer (some ⟨q, 0, none⟩)) (bs ++ wshr (f.shares.take j) ++ en 2 gX)) := Lib.hid (by simpa only [Int.toNat_natCast] using hb1)
      have HFB := Lib.hid (hfr1.flag HFA.out (HBA.out.ne_flag HFA.out))
      have HFRB := Lib.hid (HFRA.out.trans hfr1)
      have HSB := Lib.hid ((CRel.ks (cd := .shr f.shares) HSA.out hK1 hbq : ShrS _ _ _ _))
      have HE := Lib.hid (ec_14v w1 (hK1.other HNEW.out (by decide) hxq) (HVA.out.ks hK1 hbq) hxq hbq)
      clear hb1 hfr1 hK1 k0
      go_wp2_with fail
      refine (lp2_flag (out := dX) w1 hx2 HBB.out HFB.out (by have h := HB1.out; simp only [List.length_append, en_length] at h ⊢; omega) (enter_of Tryz.func80 (by kernel_rfl) (by kernel_rfl)) HE.out).mono ?_
      rintro e w2 ⟨rfl, hb2, hfr2⟩
      have hK : Ks base q w1 w2 := Ks.of_fr hfr2 (.inr HBB.out.isBld)
      have HB2 := Lib.hid hb2
      have HFR2 := Lib.hid hfr2
      have HF2 := Lib.hid (hfr2.flag HFB.out (HBB.out.ne_flag HFB.out))
      have HS2 := Lib.hid ((CRel.ks (cd := .shr f.shares) HSB.out hK hbq : ShrS _ _ _ _))
      clear hb2 hfr2 hK
      go_wp2_with fail
      refine ⟨⟨j + 1, by omega, by simp, ?_, HF2.out, HFRB.out.trans HFR2.out, HS2.out⟩, by simp [intOf]; omega⟩
      rw [← HT.out, wshr_snoc]
      have h := HB2.out
      simpa only [List.append_assoc] using h
    · have hjn' : j = (f.shares).length := by omega
      subst hjn'
      have hb := HBr.out
      rw [List.take_length] at hb
      have HBx := Lib.hid hb
      clear hsl hb
      go_wp2_with fail
      go_end0
      exact ⟨rfl, HBx.out, HFRr.out⟩

set_option maxRecDepth 100000 in
set_option maxHeartbeats 1000000 in
theorem ec_14 {base q x m : Nat} {f : CH} (w : World) (hM : MsgC w base x m (chS f)) (hbq : base ≤ q) (hst : ∀ x ∈ f.shares, x.1 < 65536 ∧ x.2.length < 65536) (hn : f.shares.length ≤ 2147483647) (ho : (wshr f.shares).length < 65536) : Emits base q 78 #[.pointer (some ⟨x, 0, none⟩)] (en 2 (wshr f.shares).length ++ (wshr f.shares)) w := by
  intro c off pl bs w' hk hf hB hl
  have hM' := hM.ks hk hbq
  have HM := Lib.hid hM'
  have HB := Lib.hid hB
  have HF := Lib.hid hf
  have cx := hM'.cell
  have hl2 : bs.length + 2 + (wshr f.shares).length ≤ 70368744177664 := by rw [List.length_append, en_length] at hl; omega
  clear hk hf hB hM hM' hl
  simp only [List.append_toArray, List.cons_append, List.nil_append]
  go_enter Tryz.func78, Tryz.ntmps78
  go_wp2_with fail
  refine (lp2_flag (out := wshr f.shares) w' ho HB.out HF.out hl2 (enter_of Tryz.func79 (by kernel_rfl) (by kernel_rfl)) (ec_14a w' HM.out hbq hst hn)).mono ?_
  rintro e w1 ⟨rfl, hb, hfr⟩
  have HB1 := Lib.hid hb
  have HFR := Lib.hid hfr
  clear hb hfr
  go_wp2_with fail
  go_end0
  exact ⟨rfl, by have h := HB1.out; simpa only [List.append_assoc] using h, HFR.out⟩

set_option maxRecDepth 100000 in
set_option maxHeartbeats 1000000 in
theorem ec_15a {base q x m : Nat} {f : CH} (w : World) (hM : MsgC w base x m (chS f)) (hbq : base ≤ q) : Emits base q 82 #[.pointer (some ⟨x, 0, none⟩)] (f.modes) w := by
  intro c off pl bs w' hk hf hB hl
  have hM' := hM.ks hk hbq
  have HM := Lib.hid hM'
  have HB := Lib.hid hB
  have HF := Lib.hid hf
  have cx := hM'.cell
  obtain ⟨v, hv, hs⟩ := hM'.at (i := 23) rfl
  have HS := Lib.hid (SrcB.src hs)
  clear hk hf hB hM hM' hs
  simp only [List.append_toArray, List.cons_append, List.nil_append]
  go_enter Tryz.func82, Tryz.ntmps82
  go_wp2_with fail
  refine (addb_ok w' HB.out HS.out hl).mono ?_
  rintro e w1 ⟨rfl, hb, hfr⟩
  go_wp2_with fail
  go_end0
  exact ⟨rfl, hb, hfr⟩

set_option maxRecDepth 100000 in
set_option maxHeartbeats 1000000 in
theorem ec_15 {base q x m : Nat} {f : CH} (w : World) (hM : MsgC w base x m (chS f)) (hbq : base ≤ q) (ho : (f.modes).length < 256) : Emits base q 81 #[.pointer (some ⟨x, 0, none⟩)] (en 1 (f.modes).length ++ (f.modes)) w := by
  intro c off pl bs w' hk hf hB hl
  have hM' := hM.ks hk hbq
  have HM := Lib.hid hM'
  have HB := Lib.hid hB
  have HF := Lib.hid hf
  have cx := hM'.cell
  have hl2 : bs.length + 1 + (f.modes).length ≤ 70368744177664 := by rw [List.length_append, en_length] at hl; omega
  clear hk hf hB hM hM' hl
  simp only [List.append_toArray, List.cons_append, List.nil_append]
  go_enter Tryz.func81, Tryz.ntmps81
  go_wp2_with fail
  refine (lp1_flag (out := f.modes) w' ho HB.out HF.out hl2 (enter_of Tryz.func82 (by kernel_rfl) (by kernel_rfl)) (ec_15a w' HM.out hbq )).mono ?_
  rintro e w1 ⟨rfl, hb, hfr⟩
  have HB1 := Lib.hid hb
  have HFR := Lib.hid hfr
  clear hb hfr
  go_wp2_with fail
  go_end0
  exact ⟨rfl, by have h := HB1.out; simpa only [List.append_assoc] using h, HFR.out⟩

theorem ec_17v {base q x : Nat} {v u : Value} {s : List UInt8} (w : World) (hx : w.heap[x]? = some (.cells #[v, u] 59 (0, 0))) (hs : SrcB w base v s) (hxq : x ≠ q) (hbq : base ≤ q) :
    Emits base q 88 #[.pointer (some ⟨x, 0, none⟩)] s w := by
  intro c off pl bs w' hk hf hB hl
  have hx' := hk.other hx (by decide) hxq
  have c1 : w'.cell? ⟨x, 0, none⟩ = some v := by rw [cell_of_heap hx']; rfl
  have HS := Lib.hid (hs.ks hk hbq).src
  have HB := Lib.hid hB
  clear hk hf hB hx hs hx'
  simp only [List.append_toArray, List.cons_append, List.nil_append]
  go_enter Tryz.func88, Tryz.ntmps88
  go_wp2_with fail
  refine (addb_ok w' HB.out HS.out hl).mono ?_
  rintro e w1 ⟨rfl, hb, hfr⟩
  go_wp2_with fail
  go_end0
  exact ⟨rfl, hb, hfr⟩

set_option maxRecDepth 100000 in
set_option maxHeartbeats 1000000 in
theorem ec_17a {base q x m : Nat} {f : CH} (w : World) (hM : MsgC w base x m (chS f)) (hbq : base ≤ q) (hst : ∀ x ∈ f.psks, x.1.length < 65536 ∧ x.2 < 4294967296) (hn : f.psks.length ≤ 2147483647) : Emits base q 87 #[.pointer (some ⟨x, 0, none⟩)] (widn f.psks) w := by
  intro c off pl bs w' hk hf hB hl
  have hM' := hM.ks hk hbq
  have HM := Lib.hid hM'
  have HB := Lib.hid hB
  have HF := Lib.hid hf
  have cx := hM'.cell
  obtain ⟨vl, hvl, hls⟩ := hM'.at (i := 24) rfl
  obtain ⟨ad, cap, rfl, hx⟩ : ∃ ad cap, vl = .slice ad f.psks.length cap ∧ (0 < f.psks.length → ∃ x, ad = some ⟨x, 0, none⟩) := by
    rcases hls with ⟨rfl, h0⟩ | ⟨p, cap, cur, rfl, _⟩
    · exact ⟨none, 0, by rw [h0]; rfl, fun h => by rw [h0] at h; simp at h⟩
    · exact ⟨_, cap, rfl, fun _ => ⟨_, rfl⟩⟩
  have HS := Lib.hid hls
  have HL := Lib.hid hl
  have hql := lt_of_heap hf
  clear hk hf hB hM hM' hls hl
  simp only [List.append_toArray, List.cons_append, List.nil_append]
  go_enter Tryz.func87, Tryz.ntmps87
  go_wp2_with fail
  go_loopw [10] (fun i wr => ∃ j : Nat, j ≤ (f.psks).length ∧ i = .int .i64 j ∧ BAt wr base c off pl (.pointer (some ⟨q, 0, none⟩)) (bs ++ widn ((f.psks).take j)) ∧ Flag wr q true ∧ Fr base c w' wr ∧ PskS wr base (.slice ad f.psks.length cap) f.psks) (fun i _ => (f.psks).length - (intOf i).toNat)
  case atStart => exact ⟨0, by omega, rfl, by simpa [widn] using HB.out, HF.out, Fr.refl _ _ _, HS.out⟩
  case round =>
    obtain ⟨j, hj, rfl, hb, hfl, hfr, hsl⟩ := hrel
    have HBr := Lib.hid hb
    have HFr := Lib.hid hfl
    have HFRr := Lib.hid hfr
    have HSr := Lib.hid hsl
    clear hb hfl hfr
    by_cases hjn : j < (f.psks).length
    · obtain ⟨px, rfl⟩ := hx (by omega)
      obtain ⟨X, hX⟩ : ∃ y, y = f.psks[j] := ⟨_, rfl⟩
      obtain ⟨⟨u, q0, hsrc⟩, q1⟩ : (∃ u, wr.cell? ⟨px, j * 2, none⟩ = some u ∧ SrcB wr base u X.1) ∧ wr.cell? ⟨px, j * 2 + 1, none⟩ = some (.int .u32 (X.2 : Nat)) := by
        rcases hsl with ⟨e, _⟩ | ⟨p, cp, cur, e, _, hh, hc⟩
        · cases e
        · simp only [Value.slice.injEq, Option.some.injEq, Addr.mk.injEq, and_true] at e
          obtain ⟨rfl, _, _⟩ := e
          obtain ⟨⟨u, h2, h3⟩, h1⟩ := hc j X (by rw [hX]; exact List.getElem?_eq_getElem hjn)
          rw [cell_of_heap hh, cell_of_heap hh, Nat.mul_comm j 2]
          exact ⟨⟨u, h2, h3⟩, h1⟩
      obtain ⟨hx2, hx1⟩ : X.1.length < 65536 ∧ X.2 < 4294967296 := by rw [hX]; exact hst _ (List.getElem_mem hjn)
      obtain ⟨au, cu, rfl⟩ := hsrc.len
      have HT : Hid (f.psks.take j ++ [X] = f.psks.take (j + 1)) := Lib.hid (by rw [List.take_succ_eq_append_getElem hjn, hX])
      obtain ⟨dX, gX⟩ := X
      simp only at q0 q1 hx1 hx2 hsrc
      have HB1 : Hid ((bs ++ widn (f.psks.take j)).length + 2 + dX.length + 4 ≤ 70368744177664) := Lib.hid (by
        have h1 := HL.out
        have h2 := widn_le (L := f.psks) (j + 1)
        rw [← HT.out, widn_snoc] at h2
        simp only [List.length_append, en_length] at h1 h2 ⊢
        omega)
      have HSRC := Lib.hid hsrc
      clear hsl hX hsrc
      go_wp2_with fail
      obtain ⟨xB, hxB⟩ : ∃ x, x = wr.heap.size := ⟨_, rfl⟩
      obtain ⟨wA, hwA⟩ : ∃ x, x = wr.alloc (.cells #[.slice au dX.length cu, .int .u32 (gX : Nat)] 59) := ⟨_, rfl⟩
      rw [← hxB, ← hwA]
      have hxq : xB ≠ q := by have := lt_of_heap HFr.out; omega
      have hnew : wA.heap[xB]? = some (.cells #[.slice au dX.length cu, .int .u32 (gX : Nat)] 59 (0, 0)) := by rw [hwA, hxB]; exact heap_alloc_new _ _
      have hkA : Ks base q wr wA := by rw [hwA]; exact (Ks.refl _ _ _).alloc _
      have HBA : Hid (BAt wA base c off pl (.pointer (some ⟨q, 0, none⟩)) (bs ++ widn (f.psks.take j))) := Lib.hid (by rw [hwA]; exact HBr.out.alloc _)
      have HFA : Hid (Flag wA q true) := Lib.hid (by rw [hwA]; exact (Below.heap_alloc _ _ _ (lt_of_heap HFr.out)).trans HFr.out)
      have HFRA : Hid (Fr base c w' wA) := Lib.hid (by rw [hwA]; exact HFRr.out.alloc _)
      have HSA := Lib.hid ((CRel.ks (cd := .psk f.psks) HSr.out hkA hbq : PskS _ _ _ _))
      have HVA := Lib.hid (HSRC.out.ks hkA hbq)
      have HNEW := Lib.hid hnew
      have HE := Lib.hid (ec_17v wA hnew HVA.out hxq hbq)
      clear hxB hwA hnew hkA q0 q1
      refine (lp2_flag (out := dX) wA hx2 HBA.out HFA.out (by have h := HB1.out; simp only [List.length_append, en_length] at h ⊢; omega) (enter_of Tryz.func88 (by kernel_rfl) (by kernel_rfl)) HE.out).mono ?_
      rintro e w1 ⟨rfl, hb1, hfr1⟩
      have hK1 : Ks base q wA w1 := Ks.of_fr hfr1 (.inr HBA.out.isBld)
      have HBB : Hid (BAt w1 base c off pl (.pointer (some ⟨q, 0, none⟩)) (bs ++ widn (f.psks.take j) ++ en 2 dX.length ++ dX)) := Lib.hid hb1
      have HFB := Lib.hid (hfr1.flag HFA.out (HBA.out.ne_flag HFA.out))
      have HFRB := Lib.hid (HFRA.out.trans hfr1)
      have HSB := Lib.hid ((CRel.ks (cd := .psk f.psks) HSA.out hK1 hbq : PskS _ _ _ _))
      have k1 : w1.cell? ⟨xB, 1, none⟩ = some (.int .u32 (gX : Nat)) := by rw [cell_of_heap (hK1.other HNEW.out (by decide) hxq)]; rfl
      clear hb1 hfr1 hK1
      go_wp2_with fail
      refine (add32_ok _ w1 (by omega) (by omega) HBB.out (by have h := HB1.out; simp only [List.length_append, en_length] at h ⊢; omega)).mono ?_
      rintro e w2 ⟨rfl, hb2, hfr2⟩
      have hK : Ks base q w1 w2 := Ks.of_fr hfr2 (.inr HBB.out.isBld)
      have HB2 := Lib.hid hb2
      have HFR2 := Lib.hid hfr2
      have HF2 := Lib.hid (hfr2.flag HFB.out (HBB.out.ne_flag HFB.out))
      have HS2 := Lib.hid ((CRel.ks (cd := .psk f.psks) HSB.out hK hbq : PskS _ _ _ _))
      clear hb2 hfr2 hK
      go_wp2_with fail
      refine ⟨⟨j + 1, by omega, by simp, ?_, HF2.out, HFRB.out.trans HFR2.out, HS2.out⟩, by simp [intOf]; omega⟩
      rw [← HT.out, widn_snoc]
      have h := HB2.out
      simpa only [List.append_assoc, Int.toNat_natCast] using h
    · have hjn' : j = (f.psks).length := by omega
      subst hjn'
      have hb := HBr.out
      rw [List.take_length] at hb
      have HBx := Lib.hid hb
      clear hsl hb
      go_wp2_with fail
      go_end0
      exact ⟨rfl, HBx.out, HFRr.out⟩

theorem ec_17w {base q x : Nat} {v : Value} {s : List UInt8} (w : World) (hx : w.heap[x]? = some (.cells #[v] 22 (0, 0))) (hs : SrcB w base v s) (hxq : x ≠ q) (hbq : base ≤ q) :
    Emits base q 91 #[.pointer (some ⟨x, 0, none⟩)] s w := by
  intro c off pl bs w' hk hf hB hl
  have hx' := hk.other hx (by decide) hxq
  have c1 : w'.cell? ⟨x, 0, none⟩ = some v := by rw [cell_of_heap hx']; rfl
  have HS := Lib.hid (hs.ks hk hbq).src
  have HB := Lib.hid hB
  clear hk hf hB hx hs hx'
  simp only [List.append_toArray, List.cons_append, List.nil_append]
  go_enter Tryz.func91, Tryz.ntmps91
  go_wp2_with fail
  refine (addb_ok w' HB.out HS.out hl).mono ?_
  rintro e w1 ⟨rfl, hb, hfr⟩
  go_wp2_with fail
  go_end0
  exact ⟨rfl, hb, hfr⟩

set_option maxRecDepth 100000 in
set_option maxHeartbeats 1000000 in
theorem ec_17b {base q x m : Nat} {f : CH} (w : World) (hM : MsgC w base x m (chS f)) (hbq : base ≤ q) (hst : ∀ x ∈ f.binders, x.length < 256) (hn : f.binders.length ≤ 2147483647) : Emits base q 90 #[.pointer (some ⟨x, 0, none⟩)] (vecs 1 f.binders) w := by
  intro c off pl bs w' hk hf hB hl
  have hM' := hM.ks hk hbq
  have HM := Lib.hid hM'
  have HB := Lib.hid hB
  have HF := Lib.hid hf
  have cx := hM'.cell
  obtain ⟨vl, hvl, hls⟩ := hM'.at (i := 25) rfl
  obtain ⟨ad, cap, rfl, hx, _⟩ := SrcL.len hls
  have HS := Lib.hid hls
  have HL := Lib.hid hl
  have hql := lt_of_heap hf
  clear hk hf hB hM hM' hls hl
  simp only [List.append_toArray, List.cons_append, List.nil_append]
  go_enter Tryz.func90, Tryz.ntmps90
  go_wp2_with fail
  go_loopw [10] (fun i wr => ∃ j : Nat, j ≤ (f.binders).length ∧ i = .int .i64 j ∧ BAt wr base c off pl (.pointer (some ⟨q, 0, none⟩)) (bs ++ vecs 1 ((f.binders).take j)) ∧ Flag wr q true ∧ Fr base c w' wr ∧ SrcL wr base (.slice ad f.binders.length cap) f.binders) (fun i _ => (f.binders).length - (intOf i).toNat)
  case atStart => exact ⟨0, by omega, rfl, by simpa [vecs] using HB.out, HF.out, Fr.refl _ _ _, HS.out⟩
  case round =>
    obtain ⟨j, hj, rfl, hb, hfl, hfr, hsl⟩ := hrel
    have HBr := Lib.hid hb
    have HFr := Lib.hid hfl
    have HFRr := Lib.hid hfr
    have HSr := Lib.hid hsl
    clear hb hfl hfr
    by_cases hjn : j < (f.binders).length
    · obtain ⟨px, rfl⟩ := hx (by omega)
      obtain ⟨X, hX⟩ : ∃ y, y = f.binders[j] := ⟨_, rfl⟩
      obtain ⟨u, hu, hsrc⟩ := SrcL.at hsl hjn
      rw [← hX] at hsrc
      have hxl : X.length < 256 := by rw [hX]; exact hst _ (List.getElem_mem hjn)
      obtain ⟨au, cu, rfl⟩ := hsrc.len
      have HT : Hid (f.binders.take j ++ [X] = f.binders.take (j + 1)) := Lib.hid (by rw [List.take_succ_eq_append_getElem hjn, hX])
      have HB1 : Hid ((bs ++ vecs 1 (f.binders.take j)).length + 1 + X.length ≤ 70368744177664) := Lib.hid (by
        have h1 := HL.out
        have h2 := vecs_le (k := 1) f.binders (j + 1)
        rw [← HT.out, vecs_snoc] at h2
        simp only [List.length_append, en_length] at h1 h2 ⊢
        omega)
      have HSRC := Lib.hid hsrc
      clear hsl hX hsrc
      go_wp2_with fail
      obtain ⟨xB, hxB⟩ : ∃ x, x = wr.heap.size := ⟨_, rfl⟩
      obtain ⟨wA, hwA⟩ : ∃ x, x = wr.alloc (.cells #[.slice au X.length cu] 22) := ⟨_, rfl⟩
      rw [← hxB, ← hwA]
      have hxq : xB ≠ q := by have := lt_of_heap HFr.out; omega
      have hnew : wA.heap[xB]? = some (.cells #[.slice au X.length cu] 22 (0, 0)) := by rw [hwA, hxB]; exact heap_alloc_new _ _
      have hkA : Ks base q wr wA := by rw [hwA]; exact (Ks.refl _ _ _).alloc _
      have HBA : Hid (BAt wA base c off pl (.pointer (some ⟨q, 0, none⟩)) (bs ++ vecs 1 (f.binders.take j))) := Lib.hid (by rw [hwA]; exact HBr.out.alloc _)
      have HFA : Hid (Flag wA q true) := Lib.hid (by rw [hwA]; exact (Below.heap_alloc _ _ _ (lt_of_heap HFr.out)).trans HFr.out)
      have HFRA : Hid (Fr base c w' wA) := Lib.hid (by rw [hwA]; exact HFRr.out.alloc _)
      have HSA := Lib.hid (SrcL.ks HSr.out hkA hbq)
      have HE := Lib.hid (ec_17w wA hnew (HSRC.out.ks hkA hbq) hxq hbq)
      clear hxB hwA hxq hnew hkA
      refine (lp1_flag (out := X) wA hxl HBA.out HFA.out HB1.out (enter_of Tryz.func91 (by kernel_rfl) (by kernel_rfl)) HE.out).mono ?_
      rintro e w2 ⟨rfl, hb2, hfr2⟩
      have hK : Ks base q wA w2 := Ks.of_fr hfr2 (.inr HBA.out.isBld)
      have HB2 := Lib.hid hb2
      have HFR2 := Lib.hid hfr2
      have HF2 := Lib.hid (hfr2.flag HFA.out (HBA.out.ne_flag HFA.out))
      have HS2 := Lib.hid (SrcL.ks HSA.out hK hbq)
      clear hb2 hfr2 hK
      go_wp2_with fail
      refine ⟨⟨j + 1, by omega, by simp, ?_, HF2.out, HFRA.out.trans HFR2.out, HS2.out⟩, by simp [intOf]; omega⟩
      rw [← HT.out, vecs_snoc]
      have h := HB2.out
      simpa only [List.append_assoc] using h
    · have hjn' : j = (f.binders).length := by omega
      subst hjn'
      have hb := HBr.out
      rw [List.take_length] at hb
      have HBx := Lib.hid hb
      clear hsl hb
      go_wp2_with fail
      go_end0
      exact ⟨rfl, HBx.out, HFRr.out⟩

set_option maxRecDepth 100000 in
set_option maxHeartbeats 1000000 in
theorem ec_17 {base q x m : Nat} {f : CH} (w : World) (hM : MsgC w base x m (chS f)) (hbq : base ≤ q) (hp : ∀ x ∈ f.psks, x.1.length < 65536 ∧ x.2 < 4294967296) (hpn : f.psks.length ≤ 2147483647) (hb : ∀ x ∈ f.binders, x.length < 256) (hbn : f.binders.length ≤ 2147483647) (ho1 : (widn f.psks).length < 65536) (ho2 : (vecs 1 f.binders).length < 65536) : Emits base q 86 #[.pointer (some ⟨x, 0, none⟩)] (en 2 (widn f.psks).length ++ (widn f.psks) ++ (en 2 (vecs 1 f.binders).length ++ (vecs 1 f.binders))) w := by
  intro c off pl bs w' hk hf hB hl
  have hM' := hM.ks hk hbq
  have HM := Lib.hid hM'
  have HB := Lib.hid hB
  have HF := Lib.hid hf
  have cx := hM'.cell
  have hl2 : bs.length + 2 + (widn f.psks).length + 2 + (vecs 1 f.binders).length ≤ 70368744177664 := by simp only [List.length_append, en_length] at hl; omega
  clear hk hf hB hM hM' hl
  simp only [List.append_toArray, List.cons_append, List.nil_append]
  go_enter Tryz.func86, Tryz.ntmps86
  go_wp2_with fail
  refine (lp2_flag (out := widn f.psks) w' ho1 HB.out HF.out (by omega) (enter_of Tryz.func87 (by kernel_rfl) (by kernel_rfl)) (ec_17a w' HM.out hbq hp hpn)).mono ?_
  rintro e w1 ⟨rfl, hb', hfr⟩
  have hK : Ks base q w' w1 := Ks.of_fr hfr (.inr HB.out.isBld)
  have HB1 := Lib.hid hb'
  have HFR1 := Lib.hid hfr
  have HM1 := Lib.hid (HM.out.ks hK hbq)
  have HF1 := Lib.hid (hfr.flag HF.out (HB.out.ne_flag HF.out))
  clear hb' hfr hK
  go_wp2_with fail
  refine (lp2_flag (out := vecs 1 f.binders) w1 ho2 HB1.out HF1.out (by simp only [List.length_append, en_length]; omega) (enter_of Tryz.func90 (by kernel_rfl) (by kernel_rfl)) (ec_17b w1 HM1.out hbq hb hbn)).mono ?_
  rintro e w2 ⟨rfl, hb', hfr⟩
  have HB2 := Lib.hid hb'
  have HFR2 := Lib.hid hfr
  clear hb' hfr
  go_wp2_with fail
  go_end0
  exact ⟨rfl, by have h := HB2.out; simpa only [List.append_assoc] using h, HFR1.out.trans HFR2.out⟩

set_option maxRecDepth 100000 in
set_option maxHeartbeats 1000000 in
theorem ec_18a {base q x m y : Nat} {f : CH} (w : World) (hM : MsgC w base x m (chS f)) (hY : w.heap[y]? = some (.cells #[.bool false] 4 (0, 0))) (hyb : y < base) (hbq : base ≤ q) : Emits base q 94 #[.pointer (some ⟨y, 0, none⟩), .pointer (some ⟨x, 0, none⟩)] f.session w := by
  intro c off pl bs w' hk hf hB hl
  have hM' := hM.ks hk hbq
  have HM := Lib.hid hM'
  have HB := Lib.hid hB
  have HF := Lib.hid hf
  have cx := hM'.cell
  have cy := cell_head (hk.other hY (by decide) (by omega))
  obtain ⟨v, hv, hs⟩ := hM'.at (i := 3) rfl
  have HS := Lib.hid (SrcB.src hs)
  clear hk hf hB hM hM' hs hY
  simp only [List.append_toArray, List.cons_append, List.nil_append]
  go_enter Tryz.func94, Tryz.ntmps94
  go_wp2_with fail
  refine (addb_ok w' HB.out HS.out hl).mono ?_
  rintro e w1 ⟨rfl, hb, hfr⟩
  go_wp2_with fail
  go_end0
  exact ⟨rfl, hb, hfr⟩

set_option maxRecDepth 100000 in
set_option maxHeartbeats 1000000 in
theorem ec_18b {base q x m : Nat} {f : CH} (w : World) (hM : MsgC w base x m (chS f)) (hbq : base ≤ q) (hst : ∀ x ∈ f.suites, x < 65536) (hn : f.suites.length ≤ 2147483647) : Emits base q 95 #[.pointer (some ⟨x, 0, none⟩)] (wnums 2 f.suites) w := by
  intro c off pl bs w' hk hf hB hl
  have hM' := hM.ks hk hbq
  have HM := Lib.hid hM'
  have HB := Lib.hid hB
  have HF := Lib.hid hf
  have cx := hM'.cell
  obtain ⟨vl, hvl, hls⟩ := hM'.at (i := 4) rfl
  obtain ⟨ad, cap, rfl, hx⟩ := RowS.len hls
  rw [List.length_map] at hx hls hvl
  have HS := Lib.hid hls
  have HL := Lib.hid hl
  have hql := lt_of_heap hf
  clear hk hf hB hM hM' hls hl
  simp only [List.append_toArray, List.cons_append, List.nil_append]
  go_enter Tryz.func95, Tryz.ntmps95
  go_wp2_with fail
  go_loopw [10] (fun i wr => ∃ j : Nat, j ≤ (f.suites).length ∧ i = .int .i64 j ∧ BAt wr base c off pl (.pointer (some ⟨q, 0, none⟩)) (bs ++ wnums 2 ((f.suites).take j)) ∧ Flag wr q true ∧ Fr base c w' wr ∧ RowS wr base 23 (.slice ad f.suites.length cap) (f.suites.map fun n => Value.int .u16 (n : Nat))) (fun i _ => (f.suites).length - (intOf i).toNat)
  case atStart => exact ⟨0, by omega, rfl, by simpa [wnums] using HB.out, HF.out, Fr.refl _ _ _, HS.out⟩
  case round =>
    obtain ⟨j, hj, rfl, hb, hfl, hfr, hsl⟩ := hrel
    have HBr := Lib.hid hb
    have HFr := Lib.hid hfl
    have HFRr := Lib.hid hfr
    have HSr := Lib.hid hsl
    clear hb hfl hfr
    by_cases hjn : j < (f.suites).length
    · obtain ⟨px, rfl⟩ := hx (by omega)
      obtain ⟨y, hy⟩ : ∃ y, y = f.suites[j] := ⟨_, rfl⟩
      have hu : wr.cell? ⟨px, j, none⟩ = some (.int .u16 (y : Nat)) := RowS.at hsl (by simp [hjn, hy])
      have hyb : y < 65536 := by rw [hy]; exact hst _ (List.getElem_mem hjn)
      have HT : Hid (f.suites.take j ++ [y] = f.suites.take (j + 1)) := Lib.hid (by rw [List.take_succ_eq_append_getElem hjn, hy])
      have hb1 : (bs ++ wnums 2 (f.suites.take j)).length + 2 ≤ 70368744177664 := by
        have h1 := HL.out
        have h2 := wnums_le (L := f.suites) (j + 1)
        rw [← HT.out, wnums_snoc] at h2
        simp only [List.length_append, en_length] at h1 h2 ⊢
        omega
      clear hsl hy
      go_wp2_with fail
      refine (add16_ok _ wr (by omega) (by omega) HBr.out hb1).mono ?_
      rintro e w2 ⟨rfl, hb2, hfr2⟩
      have hK : Ks base q wr w2 := Ks.of_fr hfr2 (.inr HBr.out.isBld)
      have HF2 := Lib.hid (hfr2.flag HFr.out (HBr.out.ne_flag HFr.out))
      have HS2 := Lib.hid (RowS.ks HSr.out (by decide) hK hbq)
      have HB2 : Hid (BAt w2 base c off pl (.pointer (some ⟨q, 0, none⟩)) (bs ++ wnums 2 (f.suites.take (j + 1)))) := Lib.hid (by rw [← HT.out, wnums_snoc]; simpa only [List.append_assoc, Int.toNat_natCast] using hb2)
      have HFR2 := Lib.hid (HFRr.out.trans hfr2)
      clear hb2 hfr2 hK
      go_wp2_with fail
      exact ⟨⟨j + 1, by omega, by simp, HB2.out, HF2.out, HFR2.out, HS2.out⟩, by simp [intOf]; omega⟩
    · have hjn' : j = (f.suites).length := by omega
      subst hjn'
      have hb := HBr.out
      rw [List.take_length] at hb
      have HBx := Lib.hid hb
      clear hsl hb
      go_wp2_with fail
      go_end0
      exact ⟨rfl, HBx.out, HFRr.out⟩

set_option maxRecDepth 100000 in
set_option maxHeartbeats 1000000 in
theorem ec_18c {base q x m : Nat} {f : CH} (w : World) (hM : MsgC w base x m (chS f)) (hbq : base ≤ q) : Emits base q 96 #[.pointer (some ⟨x, 0, none⟩)] (f.comps) w := by
  intro c off pl bs w' hk hf hB hl
  have hM' := hM.ks hk hbq
  have HM := Lib.hid hM'
  have HB := Lib.hid hB
  have HF := Lib.hid hf
  have cx := hM'.cell
  obtain ⟨v, hv, hs⟩ := hM'.at (i := 5) rfl
  have HS := Lib.hid (SrcB.src hs)
  clear hk hf hB hM hM' hs
  simp only [List.append_toArray, List.cons_append, List.nil_append]
  go_enter Tryz.func96, Tryz.ntmps96
  go_wp2_with fail
  refine (addb_ok w' HB.out HS.out hl).mono ?_
  rintro e w1 ⟨rfl, hb, hfr⟩
  go_wp2_with fail
  go_end0
  exact ⟨rfl, hb, hfr⟩

theorem ec_18d {base q x : Nat} {v : Value} {s : List UInt8} (w : World) (hx : w.heap[x]? = some (.cells #[v] 22 (0, 0))) (hs : SrcB w base v s) (hxq : x ≠ q) (hbq : base ≤ q) :
    Emits base q 97 #[.pointer (some ⟨x, 0, none⟩)] s w := by
  intro c off pl bs w' hk hf hB hl
  have hx' := hk.other hx (by decide) hxq
  have c1 : w'.cell? ⟨x, 0, none⟩ = some v := by rw [cell_of_heap hx']; rfl
  have HS := Lib.hid (hs.ks hk hbq).src
  have HB := Lib.hid hB
  clear hk hf hB hx hs hx'
  simp only [List.append_toArray, List.cons_append, List.nil_append]
  go_enter Tryz.func97, Tryz.ntmps97
  go_wp2_with fail
  refine (addb_ok w' HB.out HS.out hl).mono ?_
  rintro e w1 ⟨rfl, hb, hfr⟩
  go_wp2_with fail
  go_end0
  exact ⟨rfl, hb, hfr⟩

end Go.Proofs.YtopcljikkdlffaaGreat
