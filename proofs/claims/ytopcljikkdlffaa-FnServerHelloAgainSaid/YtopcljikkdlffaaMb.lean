/- A ServerHello is made by package tls. No statement of the seat is proved here. -/
import Derived.Test.YtopcljikkdlffaaMa
import Derived.Test.YtopcljikkdlffaaMv
import Derived.Deep.CutBlock
import Derived.Deep.DeepCutAuto
namespace Go.Proofs.Ytopcljikkdlffaa
open Go.RowKit

/-- What is right of the fields of a ServerHello that is made. -/
structure ShFit (f : SH) : Prop where
  vers : f.vers < 65536
  random : f.random.length = 32
  session : f.session.length < 256
  cipher : f.cipher < 65536
  comp : f.comp < 256
  sr : f.sr.length < 256
  alpn : f.alpn.length < 256
  scts : ∀ x ∈ f.scts, x.length < 65536
  sctsn : f.scts.length ≤ 2147483647
  sctsv : (vecs 2 f.scts).length < 65534
  sver : f.sver < 65536
  sgroup : f.sgroup < 65536
  sdata : f.sdata.length < 65532
  sid : f.sid < 65536
  pts : f.pts.length < 256
  ech : f.ech.length < 65536
  cookie : f.cookie.length < 65534
  selg : f.selg < 65536

/-- Extensions, one behind the other. -/
def encX (L : List (Nat × List UInt8)) : List UInt8 := L.flatMap fun e => en 2 e.1 ++ en 2 e.2.length ++ e.2

theorem encX_append (L R : List (Nat × List UInt8)) : encX (L ++ R) = encX L ++ encX R := by simp [encX]

def one (b : Prop) [Decidable b] (ty : Nat) (d : List UInt8) : List (Nat × List UInt8) := if b then [(ty, d)] else []

theorem encX_one_len {b : Prop} [Decidable b] {ty : Nat} {d : List UInt8} : (encX (one b ty d)).length ≤ 4 + d.length := by
  unfold one
  by_cases h : b
  · rw [if_pos h]; simp [encX, en_length]; omega
  · rw [if_neg h]; simp [encX]

theorem neq0 (n : Nat) : ((n : Int) != 0) = decide (n ≠ 0) := by
  rw [Bool.eq_iff_iff]
  simp only [bne_iff_ne, decide_eq_true_eq]
  omega

set_option maxRecDepth 100000 in
theorem arr129 (s : Array Value) (h : s.size = 129) : ∃ z : Nat → Value, s = #[z 0, z 1, z 2, z 3, z 4, z 5, z 6, z 7, z 8, z 9, z 10, z 11, z 12, z 13, z 14, z 15, z 16, z 17, z 18, z 19, z 20, z 21, z 22, z 23, z 24, z 25, z 26, z 27, z 28, z 29, z 30, z 31, z 32, z 33, z 34, z 35, z 36, z 37, z 38, z 39, z 40, z 41, z 42, z 43, z 44, z 45, z 46, z 47, z 48, z 49, z 50, z 51, z 52, z 53, z 54, z 55, z 56, z 57, z 58, z 59, z 60, z 61, z 62, z 63, z 64, z 65, z 66, z 67, z 68, z 69, z 70, z 71, z 72, z 73, z 74, z 75, z 76, z 77, z 78, z 79, z 80, z 81, z 82, z 83, z 84, z 85, z 86, z 87, z 88, z 89, z 90, z 91, z 92, z 93, z 94, z 95, z 96, z 97, z 98, z 99, z 100, z 101, z 102, z 103, z 104, z 105, z 106, z 107, z 108, z 109, z 110, z 111, z 112, z 113, z 114, z 115, z 116, z 117, z 118, z 119, z 120, z 121, z 122, z 123, z 124, z 125, z 126, z 127, z 128] := by
  obtain ⟨z, hz⟩ := arr_of 129 s h
  exact ⟨z, hz⟩

noncomputable def shConds : List Code := conds (Try.f92.body.getD .skip)

/-- What a piece leaves: its bytes were added. -/
def SpPost (w : World) (base x m c : Nat) (F : List SD) (bs : List UInt8) (n : Nat) (e : Exit) (a : Act) (w' : World) : Prop :=
  e = .normal ∧ a.defers = [] ∧ a.tmps.size = n ∧ a.tmps[1]? = some (.pointer (some ⟨x, 0, none⟩)) ∧ a.tmps[4]? = some (.pointer (some ⟨c, 0, none⟩)) ∧ BS w' base c bs ∧ MsgS w' base x m F ∧ Fr base c w w'

theorem sl_0 {f : SH} {bs : List UInt8} (K : ShFit f) : (bs ++ encX (one (f.ocsp = true) 5 (([] : List UInt8)))).length ≤ bs.length + 70000 := by
  have hdl : (([] : List UInt8)).length ≤ 65540 := by simp [en_length]
  have := encX_one_len (b := f.ocsp = true) (ty := 5) (d := ([] : List UInt8))
  simp only [List.length_append] at this hdl ⊢
  omega

set_option maxRecDepth 100000 in
set_option maxHeartbeats 4000000 in
theorem sp_0 {base c x m : Nat} {f : SH} {bs : List UInt8} {s : Array Value} {b : Bool} (w : World) (K : ShFit f) (hs : s.size = 129) (h1 : s[1]? = some (.pointer (some ⟨x, 0, none⟩))) (h4 : s[4]? = some (.pointer (some ⟨c, 0, none⟩))) (hT : s[11]? = some (.bool b))
    (hb : b = decide (f.ocsp = true)) (hB : BS w base c bs) (hM : MsgS w base x m (shS f)) (hl : bs.length ≤ 4294967296) :
    Code.wp Try.prog ((shConds[0]?).getD .skip) (SpPost w base x m c (shS f) (bs ++ encX (one (f.ocsp = true) 5 (([] : List UInt8)))) 129) ⟨s, []⟩ w := by
  obtain ⟨z, rfl⟩ := arr129 s hs
  have e1 : z 1 = .pointer (some ⟨x, 0, none⟩) := Option.some.inj h1
  have e4 : z 4 = .pointer (some ⟨c, 0, none⟩) := Option.some.inj h4
  have eT : z 11 = .bool b := Option.some.inj hT
  rw [e1, e4, eT]
  have HB := Lib.hid hB
  have HM := Lib.hid hM
  clear hs h1 h4 hT e1 e4 eT hB hM
  by_cases ht : f.ocsp = true
  · obtain rfl : b = true := by rw [hb]; simpa using ht
    have ho : one (f.ocsp = true) 5 (([] : List UInt8)) = [(5, ([] : List UInt8))] := if_pos ht
    rw [ho]
    have e0 : encX [(5, ([] : List UInt8))] = en 2 5 ++ en 2 (([] : List UInt8)).length ++ [] := by simp [encX]
    rw [e0]
    clear ht hb ho e0
    conv => arg 2; whnf
    go_wp2_with fail
    refine (bs_add16 5 w (by omega) (by omega) HB.out (by omega)).mono ?_
    rintro e w1 ⟨rfl, hb, hfr⟩
    have HB1 : Hid (BS w1 base c (bs ++ en 2 5)) := Lib.hid hb
    have HM1 := Lib.hid (HM.out.fr hfr (.inr HB.out.isBld))
    have HF1 := Lib.hid hfr
    clear hb hfr
    go_wp2_with fail
    refine (bs_add16 0 w1 (by omega) (by omega) HB1.out (by simp [en_length]; omega)).mono ?_
    rintro e w2 ⟨rfl, hb, hfr⟩
    have HB2 : Hid (BS w2 base c (bs ++ en 2 5 ++ en 2 0)) := Lib.hid hb
    have HM2 := Lib.hid (HM1.out.fr hfr (.inr HB1.out.isBld))
    have HF2 := Lib.hid (HF1.out.trans hfr)
    clear hb hfr
    go_wp2_with fail
    refine ⟨rfl, rfl, rfl, rfl, rfl, ?_, HM2.out, HF2.out⟩
    have h := HB2.out
    simpa only [List.append_assoc, List.append_nil, List.length_nil] using h
  · obtain rfl : b = false := by rw [hb]; simpa using ht
    have ho : one (f.ocsp = true) 5 (([] : List UInt8)) = [] := if_neg ht
    rw [ho]
    clear ht hb ho
    conv => arg 2; whnf
    go_wp2_with fail
    exact ⟨rfl, rfl, rfl, rfl, rfl, by simpa [encX] using HB.out, HM.out, Fr.refl _ _ _⟩

theorem sl_1 {f : SH} {bs : List UInt8} (K : ShFit f) : (bs ++ encX (one (f.ticket = true) 35 (([] : List UInt8)))).length ≤ bs.length + 70000 := by
  have hdl : (([] : List UInt8)).length ≤ 65540 := by simp [en_length]
  have := encX_one_len (b := f.ticket = true) (ty := 35) (d := ([] : List UInt8))
  simp only [List.length_append] at this hdl ⊢
  omega

set_option maxRecDepth 100000 in
set_option maxHeartbeats 4000000 in
theorem sp_1 {base c x m : Nat} {f : SH} {bs : List UInt8} {s : Array Value} {b : Bool} (w : World) (K : ShFit f) (hs : s.size = 129) (h1 : s[1]? = some (.pointer (some ⟨x, 0, none⟩))) (h4 : s[4]? = some (.pointer (some ⟨c, 0, none⟩))) (hT : s[17]? = some (.bool b))
    (hb : b = decide (f.ticket = true)) (hB : BS w base c bs) (hM : MsgS w base x m (shS f)) (hl : bs.length ≤ 4294967296) :
    Code.wp Try.prog ((shConds[1]?).getD .skip) (SpPost w base x m c (shS f) (bs ++ encX (one (f.ticket = true) 35 (([] : List UInt8)))) 129) ⟨s, []⟩ w := by
  obtain ⟨z, rfl⟩ := arr129 s hs
  have e1 : z 1 = .pointer (some ⟨x, 0, none⟩) := Option.some.inj h1
  have e4 : z 4 = .pointer (some ⟨c, 0, none⟩) := Option.some.inj h4
  have eT : z 17 = .bool b := Option.some.inj hT
  rw [e1, e4, eT]
  have HB := Lib.hid hB
  have HM := Lib.hid hM
  clear hs h1 h4 hT e1 e4 eT hB hM
  by_cases ht : f.ticket = true
  · obtain rfl : b = true := by rw [hb]; simpa using ht
    have ho : one (f.ticket = true) 35 (([] : List UInt8)) = [(35, ([] : List UInt8))] := if_pos ht
    rw [ho]
    have e0 : encX [(35, ([] : List UInt8))] = en 2 35 ++ en 2 (([] : List UInt8)).length ++ [] := by simp [encX]
    rw [e0]
    clear ht hb ho e0
    conv => arg 2; whnf
    go_wp2_with fail
    refine (bs_add16 35 w (by omega) (by omega) HB.out (by omega)).mono ?_
    rintro e w1 ⟨rfl, hb, hfr⟩
    have HB1 : Hid (BS w1 base c (bs ++ en 2 35)) := Lib.hid hb
    have HM1 := Lib.hid (HM.out.fr hfr (.inr HB.out.isBld))
    have HF1 := Lib.hid hfr
    clear hb hfr
    go_wp2_with fail
    refine (bs_add16 0 w1 (by omega) (by omega) HB1.out (by simp [en_length]; omega)).mono ?_
    rintro e w2 ⟨rfl, hb, hfr⟩
    have HB2 : Hid (BS w2 base c (bs ++ en 2 35 ++ en 2 0)) := Lib.hid hb
    have HM2 := Lib.hid (HM1.out.fr hfr (.inr HB1.out.isBld))
    have HF2 := Lib.hid (HF1.out.trans hfr)
    clear hb hfr
    go_wp2_with fail
    refine ⟨rfl, rfl, rfl, rfl, rfl, ?_, HM2.out, HF2.out⟩
    have h := HB2.out
    simpa only [List.append_assoc, List.append_nil, List.length_nil] using h
  · obtain rfl : b = false := by rw [hb]; simpa using ht
    have ho : one (f.ticket = true) 35 (([] : List UInt8)) = [] := if_neg ht
    rw [ho]
    clear ht hb ho
    conv => arg 2; whnf
    go_wp2_with fail
    exact ⟨rfl, rfl, rfl, rfl, rfl, by simpa [encX] using HB.out, HM.out, Fr.refl _ _ _⟩

theorem sl_2 {f : SH} {bs : List UInt8} (K : ShFit f) : (bs ++ encX (one (f.srs = true) 65281 (en 1 f.sr.length ++ f.sr))).length ≤ bs.length + 70000 := by
  have hdl : (en 1 f.sr.length ++ f.sr).length ≤ 65540 := by have := K.sr; simp [en_length]; omega
  have := encX_one_len (b := f.srs = true) (ty := 65281) (d := en 1 f.sr.length ++ f.sr)
  simp only [List.length_append] at this hdl ⊢
  omega

set_option maxRecDepth 100000 in
set_option maxHeartbeats 4000000 in
theorem sp_2 {base c x m : Nat} {f : SH} {bs : List UInt8} {s : Array Value} {b : Bool} (w : World) (K : ShFit f) (hs : s.size = 129) (h1 : s[1]? = some (.pointer (some ⟨x, 0, none⟩))) (h4 : s[4]? = some (.pointer (some ⟨c, 0, none⟩))) (hT : s[23]? = some (.bool b))
    (hb : b = decide (f.srs = true)) (hB : BS w base c bs) (hM : MsgS w base x m (shS f)) (hl : bs.length ≤ 4294967296) :
    Code.wp Try.prog ((shConds[2]?).getD .skip) (SpPost w base x m c (shS f) (bs ++ encX (one (f.srs = true) 65281 (en 1 f.sr.length ++ f.sr))) 129) ⟨s, []⟩ w := by
  obtain ⟨z, rfl⟩ := arr129 s hs
  have e1 : z 1 = .pointer (some ⟨x, 0, none⟩) := Option.some.inj h1
  have e4 : z 4 = .pointer (some ⟨c, 0, none⟩) := Option.some.inj h4
  have eT : z 23 = .bool b := Option.some.inj hT
  rw [e1, e4, eT]
  have HB := Lib.hid hB
  have HM := Lib.hid hM
  clear hs h1 h4 hT e1 e4 eT hB hM
  by_cases ht : f.srs = true
  · obtain rfl : b = true := by rw [hb]; simpa using ht
    have ho : one (f.srs = true) 65281 (en 1 f.sr.length ++ f.sr) = [(65281, en 1 f.sr.length ++ f.sr)] := if_pos ht
    rw [ho]
    have e0 : encX [(65281, en 1 f.sr.length ++ f.sr)] = en 2 65281 ++ en 2 (en 1 f.sr.length ++ f.sr).length ++ (en 1 f.sr.length ++ f.sr) := by simp [encX]
    rw [e0]
    clear ht hb ho e0
    conv => arg 2; whnf
    go_wp2_with fail
    refine (bs_add16 65281 w (by omega) (by omega) HB.out (by omega)).mono ?_
    rintro e w1 ⟨rfl, hb, hfr⟩
    have HB1 : Hid (BS w1 base c (bs ++ en 2 65281)) := Lib.hid hb
    have HM1 := Lib.hid (HM.out.fr hfr (.inr HB.out.isBld))
    have HF1 := Lib.hid hfr
    clear hb hfr
    go_wp2_with fail
    have ho : (en 1 f.sr.length ++ f.sr).length < 65536 := by have := K.sr; simp [en_length]; omega
    refine (bs_lp2 (out := en 1 f.sr.length ++ f.sr) w1 ho HB1.out (by simp only [List.length_append, en_length] at ho ⊢; omega) (enter_of Try.func115 (by kernel_rfl) (by kernel_rfl)) (fun q hq hqf => by
      obtain ⟨n1, n2⟩ := HM1.out.ne_any hqf
      have hM := HM1.out
      exact em_s1 w1 hM n1 n2 hq K.sr)).mono ?_
    rintro e w2 ⟨rfl, hb, hfr⟩
    have HB2 : Hid (BS w2 base c (bs ++ en 2 65281 ++ en 2 (en 1 f.sr.length ++ f.sr).length ++ (en 1 f.sr.length ++ f.sr))) := Lib.hid hb
    have HM2 := Lib.hid (HM1.out.fr hfr (.inr HB1.out.isBld))
    have HF2 := Lib.hid (HF1.out.trans hfr)
    clear hb hfr
    go_wp2_with fail
    refine ⟨rfl, rfl, rfl, rfl, rfl, ?_, HM2.out, HF2.out⟩
    have h := HB2.out
    simpa only [List.append_assoc, List.append_nil, List.length_nil] using h
  · obtain rfl : b = false := by rw [hb]; simpa using ht
    have ho : one (f.srs = true) 65281 (en 1 f.sr.length ++ f.sr) = [] := if_neg ht
    rw [ho]
    clear ht hb ho
    conv => arg 2; whnf
    go_wp2_with fail
    exact ⟨rfl, rfl, rfl, rfl, rfl, by simpa [encX] using HB.out, HM.out, Fr.refl _ _ _⟩

theorem sl_3 {f : SH} {bs : List UInt8} (K : ShFit f) : (bs ++ encX (one (f.ems = true) 23 (([] : List UInt8)))).length ≤ bs.length + 70000 := by
  have hdl : (([] : List UInt8)).length ≤ 65540 := by simp [en_length]
  have := encX_one_len (b := f.ems = true) (ty := 23) (d := ([] : List UInt8))
  simp only [List.length_append] at this hdl ⊢
  omega

set_option maxRecDepth 100000 in
set_option maxHeartbeats 4000000 in
theorem sp_3 {base c x m : Nat} {f : SH} {bs : List UInt8} {s : Array Value} {b : Bool} (w : World) (K : ShFit f) (hs : s.size = 129) (h1 : s[1]? = some (.pointer (some ⟨x, 0, none⟩))) (h4 : s[4]? = some (.pointer (some ⟨c, 0, none⟩))) (hT : s[30]? = some (.bool b))
    (hb : b = decide (f.ems = true)) (hB : BS w base c bs) (hM : MsgS w base x m (shS f)) (hl : bs.length ≤ 4294967296) :
    Code.wp Try.prog ((shConds[3]?).getD .skip) (SpPost w base x m c (shS f) (bs ++ encX (one (f.ems = true) 23 (([] : List UInt8)))) 129) ⟨s, []⟩ w := by
  obtain ⟨z, rfl⟩ := arr129 s hs
  have e1 : z 1 = .pointer (some ⟨x, 0, none⟩) := Option.some.inj h1
  have e4 : z 4 = .pointer (some ⟨c, 0, none⟩) := Option.some.inj h4
  have eT : z 30 = .bool b := Option.some.inj hT
  rw [e1, e4, eT]
  have HB := Lib.hid hB
  have HM := Lib.hid hM
  clear hs h1 h4 hT e1 e4 eT hB hM
  by_cases ht : f.ems = true
  · obtain rfl : b = true := by rw [hb]; simpa using ht
    have ho : one (f.ems = true) 23 (([] : List UInt8)) = [(23, ([] : List UInt8))] := if_pos ht
    rw [ho]
    have e0 : encX [(23, ([] : List UInt8))] = en 2 23 ++ en 2 (([] : List UInt8)).length ++ [] := by simp [encX]
    rw [e0]
    clear ht hb ho e0
    conv => arg 2; whnf
    go_wp2_with fail
    refine (bs_add16 23 w (by omega) (by omega) HB.out (by omega)).mono ?_
    rintro e w1 ⟨rfl, hb, hfr⟩
    have HB1 : Hid (BS w1 base c (bs ++ en 2 23)) := Lib.hid hb
    have HM1 := Lib.hid (HM.out.fr hfr (.inr HB.out.isBld))
    have HF1 := Lib.hid hfr
    clear hb hfr
    go_wp2_with fail
    refine (bs_add16 0 w1 (by omega) (by omega) HB1.out (by simp [en_length]; omega)).mono ?_
    rintro e w2 ⟨rfl, hb, hfr⟩
    have HB2 : Hid (BS w2 base c (bs ++ en 2 23 ++ en 2 0)) := Lib.hid hb
    have HM2 := Lib.hid (HM1.out.fr hfr (.inr HB1.out.isBld))
    have HF2 := Lib.hid (HF1.out.trans hfr)
    clear hb hfr
    go_wp2_with fail
    refine ⟨rfl, rfl, rfl, rfl, rfl, ?_, HM2.out, HF2.out⟩
    have h := HB2.out
    simpa only [List.append_assoc, List.append_nil, List.length_nil] using h
  · obtain rfl : b = false := by rw [hb]; simpa using ht
    have ho : one (f.ems = true) 23 (([] : List UInt8)) = [] := if_neg ht
    rw [ho]
    clear ht hb ho
    conv => arg 2; whnf
    go_wp2_with fail
    exact ⟨rfl, rfl, rfl, rfl, rfl, by simpa [encX] using HB.out, HM.out, Fr.refl _ _ _⟩

theorem sl_4 {f : SH} {bs : List UInt8} (K : ShFit f) : (bs ++ encX (one (0 < f.alpn.length) 16 (en 2 (en 1 f.alpn.length ++ f.alpn).length ++ (en 1 f.alpn.length ++ f.alpn)))).length ≤ bs.length + 70000 := by
  have hdl : (en 2 (en 1 f.alpn.length ++ f.alpn).length ++ (en 1 f.alpn.length ++ f.alpn)).length ≤ 65540 := by have := K.alpn; simp [en_length]; omega
  have := encX_one_len (b := 0 < f.alpn.length) (ty := 16) (d := en 2 (en 1 f.alpn.length ++ f.alpn).length ++ (en 1 f.alpn.length ++ f.alpn))
  simp only [List.length_append] at this hdl ⊢
  omega

set_option maxRecDepth 100000 in
set_option maxHeartbeats 4000000 in
theorem sp_4 {base c x m : Nat} {f : SH} {bs : List UInt8} {s : Array Value} {b : Bool} (w : World) (K : ShFit f) (hs : s.size = 129) (h1 : s[1]? = some (.pointer (some ⟨x, 0, none⟩))) (h4 : s[4]? = some (.pointer (some ⟨c, 0, none⟩))) (hT : s[38]? = some (.bool b))
    (hb : b = decide (0 < f.alpn.length)) (hB : BS w base c bs) (hM : MsgS w base x m (shS f)) (hl : bs.length ≤ 4294967296) :
    Code.wp Try.prog ((shConds[4]?).getD .skip) (SpPost w base x m c (shS f) (bs ++ encX (one (0 < f.alpn.length) 16 (en 2 (en 1 f.alpn.length ++ f.alpn).length ++ (en 1 f.alpn.length ++ f.alpn)))) 129) ⟨s, []⟩ w := by
  obtain ⟨z, rfl⟩ := arr129 s hs
  have e1 : z 1 = .pointer (some ⟨x, 0, none⟩) := Option.some.inj h1
  have e4 : z 4 = .pointer (some ⟨c, 0, none⟩) := Option.some.inj h4
  have eT : z 38 = .bool b := Option.some.inj hT
  rw [e1, e4, eT]
  have HB := Lib.hid hB
  have HM := Lib.hid hM
  clear hs h1 h4 hT e1 e4 eT hB hM
  by_cases ht : 0 < f.alpn.length
  · obtain rfl : b = true := by rw [hb]; simpa using ht
    have ho : one (0 < f.alpn.length) 16 (en 2 (en 1 f.alpn.length ++ f.alpn).length ++ (en 1 f.alpn.length ++ f.alpn)) = [(16, en 2 (en 1 f.alpn.length ++ f.alpn).length ++ (en 1 f.alpn.length ++ f.alpn))] := if_pos ht
    rw [ho]
    have e0 : encX [(16, en 2 (en 1 f.alpn.length ++ f.alpn).length ++ (en 1 f.alpn.length ++ f.alpn))] = en 2 16 ++ en 2 (en 2 (en 1 f.alpn.length ++ f.alpn).length ++ (en 1 f.alpn.length ++ f.alpn)).length ++ (en 2 (en 1 f.alpn.length ++ f.alpn).length ++ (en 1 f.alpn.length ++ f.alpn)) := by simp [encX]
    rw [e0]
    clear ht hb ho e0
    conv => arg 2; whnf
    go_wp2_with fail
    refine (bs_add16 16 w (by omega) (by omega) HB.out (by omega)).mono ?_
    rintro e w1 ⟨rfl, hb, hfr⟩
    have HB1 : Hid (BS w1 base c (bs ++ en 2 16)) := Lib.hid hb
    have HM1 := Lib.hid (HM.out.fr hfr (.inr HB.out.isBld))
    have HF1 := Lib.hid hfr
    clear hb hfr
    go_wp2_with fail
    have ho : (en 2 (en 1 f.alpn.length ++ f.alpn).length ++ (en 1 f.alpn.length ++ f.alpn)).length < 65536 := by have := K.alpn; simp [en_length]; omega
    refine (bs_lp2 (out := en 2 (en 1 f.alpn.length ++ f.alpn).length ++ (en 1 f.alpn.length ++ f.alpn)) w1 ho HB1.out (by simp only [List.length_append, en_length] at ho ⊢; omega) (enter_of Try.func119 (by kernel_rfl) (by kernel_rfl)) (fun q hq hqf => by
      obtain ⟨n1, n2⟩ := HM1.out.ne_any hqf
      have hM := HM1.out
      exact em_s2 w1 hM n1 n2 hq (by have := K.alpn; omega) K.alpn (by have := K.alpn; simp [en_length]; omega))).mono ?_
    rintro e w2 ⟨rfl, hb, hfr⟩
    have HB2 : Hid (BS w2 base c (bs ++ en 2 16 ++ en 2 (en 2 (en 1 f.alpn.length ++ f.alpn).length ++ (en 1 f.alpn.length ++ f.alpn)).length ++ (en 2 (en 1 f.alpn.length ++ f.alpn).length ++ (en 1 f.alpn.length ++ f.alpn)))) := Lib.hid hb
    have HM2 := Lib.hid (HM1.out.fr hfr (.inr HB1.out.isBld))
    have HF2 := Lib.hid (HF1.out.trans hfr)
    clear hb hfr
    go_wp2_with fail
    refine ⟨rfl, rfl, rfl, rfl, rfl, ?_, HM2.out, HF2.out⟩
    have h := HB2.out
    simpa only [List.append_assoc, List.append_nil, List.length_nil] using h
  · obtain rfl : b = false := by rw [hb]; simpa using ht
    have ho : one (0 < f.alpn.length) 16 (en 2 (en 1 f.alpn.length ++ f.alpn).length ++ (en 1 f.alpn.length ++ f.alpn)) = [] := if_neg ht
    rw [ho]
    clear ht hb ho
    conv => arg 2; whnf
    go_wp2_with fail
    exact ⟨rfl, rfl, rfl, rfl, rfl, by simpa [encX] using HB.out, HM.out, Fr.refl _ _ _⟩

theorem sl_5 {f : SH} {bs : List UInt8} (K : ShFit f) : (bs ++ encX (one (0 < f.scts.length) 18 (en 2 (vecs 2 f.scts).length ++ vecs 2 f.scts))).length ≤ bs.length + 70000 := by
  have hdl : (en 2 (vecs 2 f.scts).length ++ vecs 2 f.scts).length ≤ 65540 := by have := K.sctsv; simp [en_length]; omega
  have := encX_one_len (b := 0 < f.scts.length) (ty := 18) (d := en 2 (vecs 2 f.scts).length ++ vecs 2 f.scts)
  simp only [List.length_append] at this hdl ⊢
  omega

set_option maxRecDepth 100000 in
set_option maxHeartbeats 4000000 in
theorem sp_5 {base c x m : Nat} {f : SH} {bs : List UInt8} {s : Array Value} {b : Bool} (w : World) (K : ShFit f) (hs : s.size = 129) (h1 : s[1]? = some (.pointer (some ⟨x, 0, none⟩))) (h4 : s[4]? = some (.pointer (some ⟨c, 0, none⟩))) (hT : s[47]? = some (.bool b))
    (hb : b = decide (0 < f.scts.length)) (hB : BS w base c bs) (hM : MsgS w base x m (shS f)) (hl : bs.length ≤ 4294967296) :
    Code.wp Try.prog ((shConds[5]?).getD .skip) (SpPost w base x m c (shS f) (bs ++ encX (one (0 < f.scts.length) 18 (en 2 (vecs 2 f.scts).length ++ vecs 2 f.scts))) 129) ⟨s, []⟩ w := by
  obtain ⟨z, rfl⟩ := arr129 s hs
  have e1 : z 1 = .pointer (some ⟨x, 0, none⟩) := Option.some.inj h1
  have e4 : z 4 = .pointer (some ⟨c, 0, none⟩) := Option.some.inj h4
  have eT : z 47 = .bool b := Option.some.inj hT
  rw [e1, e4, eT]
  have HB := Lib.hid hB
  have HM := Lib.hid hM
  clear hs h1 h4 hT e1 e4 eT hB hM
  by_cases ht : 0 < f.scts.length
  · obtain rfl : b = true := by rw [hb]; simpa using ht
    have ho : one (0 < f.scts.length) 18 (en 2 (vecs 2 f.scts).length ++ vecs 2 f.scts) = [(18, en 2 (vecs 2 f.scts).length ++ vecs 2 f.scts)] := if_pos ht
    rw [ho]
    have e0 : encX [(18, en 2 (vecs 2 f.scts).length ++ vecs 2 f.scts)] = en 2 18 ++ en 2 (en 2 (vecs 2 f.scts).length ++ vecs 2 f.scts).length ++ (en 2 (vecs 2 f.scts).length ++ vecs 2 f.scts) := by simp [encX]
    rw [e0]
    clear ht hb ho e0
    conv => arg 2; whnf
    go_wp2_with fail
    refine (bs_add16 18 w (by omega) (by omega) HB.out (by omega)).mono ?_
    rintro e w1 ⟨rfl, hb, hfr⟩
    have HB1 : Hid (BS w1 base c (bs ++ en 2 18)) := Lib.hid hb
    have HM1 := Lib.hid (HM.out.fr hfr (.inr HB.out.isBld))
    have HF1 := Lib.hid hfr
    clear hb hfr
    go_wp2_with fail
    have ho : (en 2 (vecs 2 f.scts).length ++ vecs 2 f.scts).length < 65536 := by have := K.sctsv; simp [en_length]; omega
    refine (bs_lp2 (out := en 2 (vecs 2 f.scts).length ++ vecs 2 f.scts) w1 ho HB1.out (by simp only [List.length_append, en_length] at ho ⊢; omega) (enter_of Try.func122 (by kernel_rfl) (by kernel_rfl)) (fun q hq hqf => by
      obtain ⟨n1, n2⟩ := HM1.out.ne_any hqf
      have hM := HM1.out
      exact em_s3 w1 hM n1 n2 hq K.scts K.sctsn (by have := K.sctsv; omega))).mono ?_
    rintro e w2 ⟨rfl, hb, hfr⟩
    have HB2 : Hid (BS w2 base c (bs ++ en 2 18 ++ en 2 (en 2 (vecs 2 f.scts).length ++ vecs 2 f.scts).length ++ (en 2 (vecs 2 f.scts).length ++ vecs 2 f.scts))) := Lib.hid hb
    have HM2 := Lib.hid (HM1.out.fr hfr (.inr HB1.out.isBld))
    have HF2 := Lib.hid (HF1.out.trans hfr)
    clear hb hfr
    go_wp2_with fail
    refine ⟨rfl, rfl, rfl, rfl, rfl, ?_, HM2.out, HF2.out⟩
    have h := HB2.out
    simpa only [List.append_assoc, List.append_nil, List.length_nil] using h
  · obtain rfl : b = false := by rw [hb]; simpa using ht
    have ho : one (0 < f.scts.length) 18 (en 2 (vecs 2 f.scts).length ++ vecs 2 f.scts) = [] := if_neg ht
    rw [ho]
    clear ht hb ho
    conv => arg 2; whnf
    go_wp2_with fail
    exact ⟨rfl, rfl, rfl, rfl, rfl, by simpa [encX] using HB.out, HM.out, Fr.refl _ _ _⟩

theorem sl_6 {f : SH} {bs : List UInt8} (K : ShFit f) : (bs ++ encX (one (f.sver ≠ 0) 43 (en 2 f.sver))).length ≤ bs.length + 70000 := by
  have hdl : (en 2 f.sver).length ≤ 65540 := by simp [en_length]
  have := encX_one_len (b := f.sver ≠ 0) (ty := 43) (d := en 2 f.sver)
  simp only [List.length_append] at this hdl ⊢
  omega

set_option maxRecDepth 100000 in
set_option maxHeartbeats 4000000 in
theorem sp_6 {base c x m : Nat} {f : SH} {bs : List UInt8} {s : Array Value} {b : Bool} (w : World) (K : ShFit f) (hs : s.size = 129) (h1 : s[1]? = some (.pointer (some ⟨x, 0, none⟩))) (h4 : s[4]? = some (.pointer (some ⟨c, 0, none⟩))) (hT : s[55]? = some (.bool b))
    (hb : b = decide (f.sver ≠ 0)) (hB : BS w base c bs) (hM : MsgS w base x m (shS f)) (hl : bs.length ≤ 4294967296) :
    Code.wp Try.prog ((shConds[6]?).getD .skip) (SpPost w base x m c (shS f) (bs ++ encX (one (f.sver ≠ 0) 43 (en 2 f.sver))) 129) ⟨s, []⟩ w := by
  obtain ⟨z, rfl⟩ := arr129 s hs
  have e1 : z 1 = .pointer (some ⟨x, 0, none⟩) := Option.some.inj h1
  have e4 : z 4 = .pointer (some ⟨c, 0, none⟩) := Option.some.inj h4
  have eT : z 55 = .bool b := Option.some.inj hT
  rw [e1, e4, eT]
  have HB := Lib.hid hB
  have HM := Lib.hid hM
  clear hs h1 h4 hT e1 e4 eT hB hM
  by_cases ht : f.sver ≠ 0
  · obtain rfl : b = true := by rw [hb]; simpa using ht
    have ho : one (f.sver ≠ 0) 43 (en 2 f.sver) = [(43, en 2 f.sver)] := if_pos ht
    rw [ho]
    have e0 : encX [(43, en 2 f.sver)] = en 2 43 ++ en 2 (en 2 f.sver).length ++ (en 2 f.sver) := by simp [encX]
    rw [e0]
    clear ht hb ho e0
    conv => arg 2; whnf
    go_wp2_with fail
    refine (bs_add16 43 w (by omega) (by omega) HB.out (by omega)).mono ?_
    rintro e w1 ⟨rfl, hb, hfr⟩
    have HB1 : Hid (BS w1 base c (bs ++ en 2 43)) := Lib.hid hb
    have HM1 := Lib.hid (HM.out.fr hfr (.inr HB.out.isBld))
    have HF1 := Lib.hid hfr
    clear hb hfr
    go_wp2_with fail
    have ho : (en 2 f.sver).length < 65536 := by simp [en_length]
    refine (bs_lp2 (out := en 2 f.sver) w1 ho HB1.out (by simp only [List.length_append, en_length] at ho ⊢; omega) (enter_of Try.func125 (by kernel_rfl) (by kernel_rfl)) (fun q hq hqf => by
      obtain ⟨n1, n2⟩ := HM1.out.ne_any hqf
      have hM := HM1.out
      exact em_s4 w1 hM n1 n2 hq K.sver)).mono ?_
    rintro e w2 ⟨rfl, hb, hfr⟩
    have HB2 : Hid (BS w2 base c (bs ++ en 2 43 ++ en 2 (en 2 f.sver).length ++ (en 2 f.sver))) := Lib.hid hb
    have HM2 := Lib.hid (HM1.out.fr hfr (.inr HB1.out.isBld))
    have HF2 := Lib.hid (HF1.out.trans hfr)
    clear hb hfr
    go_wp2_with fail
    refine ⟨rfl, rfl, rfl, rfl, rfl, ?_, HM2.out, HF2.out⟩
    have h := HB2.out
    simpa only [List.append_assoc, List.append_nil, List.length_nil] using h
  · obtain rfl : b = false := by rw [hb]; simpa using ht
    have ho : one (f.sver ≠ 0) 43 (en 2 f.sver) = [] := if_neg ht
    rw [ho]
    clear ht hb ho
    conv => arg 2; whnf
    go_wp2_with fail
    exact ⟨rfl, rfl, rfl, rfl, rfl, by simpa [encX] using HB.out, HM.out, Fr.refl _ _ _⟩

theorem sl_7 {f : SH} {bs : List UInt8} (K : ShFit f) : (bs ++ encX (one (f.sgroup ≠ 0) 51 (en 2 f.sgroup ++ en 2 f.sdata.length ++ f.sdata))).length ≤ bs.length + 70000 := by
  have hdl : (en 2 f.sgroup ++ en 2 f.sdata.length ++ f.sdata).length ≤ 65540 := by have := K.sdata; simp [en_length]; omega
  have := encX_one_len (b := f.sgroup ≠ 0) (ty := 51) (d := en 2 f.sgroup ++ en 2 f.sdata.length ++ f.sdata)
  simp only [List.length_append] at this hdl ⊢
  omega

set_option maxRecDepth 100000 in
set_option maxHeartbeats 4000000 in
theorem sp_7 {base c x m : Nat} {f : SH} {bs : List UInt8} {s : Array Value} {b : Bool} (w : World) (K : ShFit f) (hs : s.size = 129) (h1 : s[1]? = some (.pointer (some ⟨x, 0, none⟩))) (h4 : s[4]? = some (.pointer (some ⟨c, 0, none⟩))) (hT : s[64]? = some (.bool b))
    (hb : b = decide (f.sgroup ≠ 0)) (hB : BS w base c bs) (hM : MsgS w base x m (shS f)) (hl : bs.length ≤ 4294967296) :
    Code.wp Try.prog ((shConds[7]?).getD .skip) (SpPost w base x m c (shS f) (bs ++ encX (one (f.sgroup ≠ 0) 51 (en 2 f.sgroup ++ en 2 f.sdata.length ++ f.sdata))) 129) ⟨s, []⟩ w := by
  obtain ⟨z, rfl⟩ := arr129 s hs
  have e1 : z 1 = .pointer (some ⟨x, 0, none⟩) := Option.some.inj h1
  have e4 : z 4 = .pointer (some ⟨c, 0, none⟩) := Option.some.inj h4
  have eT : z 64 = .bool b := Option.some.inj hT
  rw [e1, e4, eT]
  have HB := Lib.hid hB
  have HM := Lib.hid hM
  clear hs h1 h4 hT e1 e4 eT hB hM
  by_cases ht : f.sgroup ≠ 0
  · obtain rfl : b = true := by rw [hb]; simpa using ht
    have ho : one (f.sgroup ≠ 0) 51 (en 2 f.sgroup ++ en 2 f.sdata.length ++ f.sdata) = [(51, en 2 f.sgroup ++ en 2 f.sdata.length ++ f.sdata)] := if_pos ht
    rw [ho]
    have e0 : encX [(51, en 2 f.sgroup ++ en 2 f.sdata.length ++ f.sdata)] = en 2 51 ++ en 2 (en 2 f.sgroup ++ en 2 f.sdata.length ++ f.sdata).length ++ (en 2 f.sgroup ++ en 2 f.sdata.length ++ f.sdata) := by simp [encX]
    rw [e0]
    clear ht hb ho e0
    conv => arg 2; whnf
    go_wp2_with fail
    refine (bs_add16 51 w (by omega) (by omega) HB.out (by omega)).mono ?_
    rintro e w1 ⟨rfl, hb, hfr⟩
    have HB1 : Hid (BS w1 base c (bs ++ en 2 51)) := Lib.hid hb
    have HM1 := Lib.hid (HM.out.fr hfr (.inr HB.out.isBld))
    have HF1 := Lib.hid hfr
    clear hb hfr
    go_wp2_with fail
    have ho : (en 2 f.sgroup ++ en 2 f.sdata.length ++ f.sdata).length < 65536 := by have := K.sdata; simp [en_length]; omega
    refine (bs_lp2 (out := en 2 f.sgroup ++ en 2 f.sdata.length ++ f.sdata) w1 ho HB1.out (by simp only [List.length_append, en_length] at ho ⊢; omega) (enter_of Try.func126 (by kernel_rfl) (by kernel_rfl)) (fun q hq hqf => by
      obtain ⟨n1, n2⟩ := HM1.out.ne_any hqf
      have hM := HM1.out
      exact em_s5 w1 hM n1 n2 hq K.sgroup (by have := K.sdata; omega))).mono ?_
    rintro e w2 ⟨rfl, hb, hfr⟩
    have HB2 : Hid (BS w2 base c (bs ++ en 2 51 ++ en 2 (en 2 f.sgroup ++ en 2 f.sdata.length ++ f.sdata).length ++ (en 2 f.sgroup ++ en 2 f.sdata.length ++ f.sdata))) := Lib.hid hb
    have HM2 := Lib.hid (HM1.out.fr hfr (.inr HB1.out.isBld))
    have HF2 := Lib.hid (HF1.out.trans hfr)
    clear hb hfr
    go_wp2_with fail
    refine ⟨rfl, rfl, rfl, rfl, rfl, ?_, HM2.out, HF2.out⟩
    have h := HB2.out
    simpa only [List.append_assoc, List.append_nil, List.length_nil] using h
  · obtain rfl : b = false := by rw [hb]; simpa using ht
    have ho : one (f.sgroup ≠ 0) 51 (en 2 f.sgroup ++ en 2 f.sdata.length ++ f.sdata) = [] := if_neg ht
    rw [ho]
    clear ht hb ho
    conv => arg 2; whnf
    go_wp2_with fail
    exact ⟨rfl, rfl, rfl, rfl, rfl, by simpa [encX] using HB.out, HM.out, Fr.refl _ _ _⟩

theorem sl_8 {f : SH} {bs : List UInt8} (K : ShFit f) : (bs ++ encX (one (f.sip = true) 41 (en 2 f.sid))).length ≤ bs.length + 70000 := by
  have hdl : (en 2 f.sid).length ≤ 65540 := by simp [en_length]
  have := encX_one_len (b := f.sip = true) (ty := 41) (d := en 2 f.sid)
  simp only [List.length_append] at this hdl ⊢
  omega

set_option maxRecDepth 100000 in
set_option maxHeartbeats 4000000 in
theorem sp_8 {base c x m : Nat} {f : SH} {bs : List UInt8} {s : Array Value} {b : Bool} (w : World) (K : ShFit f) (hs : s.size = 129) (h1 : s[1]? = some (.pointer (some ⟨x, 0, none⟩))) (h4 : s[4]? = some (.pointer (some ⟨c, 0, none⟩))) (hT : s[71]? = some (.bool b))
    (hb : b = decide (f.sip = true)) (hB : BS w base c bs) (hM : MsgS w base x m (shS f)) (hl : bs.length ≤ 4294967296) :
    Code.wp Try.prog ((shConds[8]?).getD .skip) (SpPost w base x m c (shS f) (bs ++ encX (one (f.sip = true) 41 (en 2 f.sid))) 129) ⟨s, []⟩ w := by
  obtain ⟨z, rfl⟩ := arr129 s hs
  have e1 : z 1 = .pointer (some ⟨x, 0, none⟩) := Option.some.inj h1
  have e4 : z 4 = .pointer (some ⟨c, 0, none⟩) := Option.some.inj h4
  have eT : z 71 = .bool b := Option.some.inj hT
  rw [e1, e4, eT]
  have HB := Lib.hid hB
  have HM := Lib.hid hM
  clear hs h1 h4 hT e1 e4 eT hB hM
  by_cases ht : f.sip = true
  · obtain rfl : b = true := by rw [hb]; simpa using ht
    have ho : one (f.sip = true) 41 (en 2 f.sid) = [(41, en 2 f.sid)] := if_pos ht
    rw [ho]
    have e0 : encX [(41, en 2 f.sid)] = en 2 41 ++ en 2 (en 2 f.sid).length ++ (en 2 f.sid) := by simp [encX]
    rw [e0]
    clear ht hb ho e0
    conv => arg 2; whnf
    go_wp2_with fail
    refine (bs_add16 41 w (by omega) (by omega) HB.out (by omega)).mono ?_
    rintro e w1 ⟨rfl, hb, hfr⟩
    have HB1 : Hid (BS w1 base c (bs ++ en 2 41)) := Lib.hid hb
    have HM1 := Lib.hid (HM.out.fr hfr (.inr HB.out.isBld))
    have HF1 := Lib.hid hfr
    clear hb hfr
    go_wp2_with fail
    have ho : (en 2 f.sid).length < 65536 := by simp [en_length]
    refine (bs_lp2 (out := en 2 f.sid) w1 ho HB1.out (by simp only [List.length_append, en_length] at ho ⊢; omega) (enter_of Try.func128 (by kernel_rfl) (by kernel_rfl)) (fun q hq hqf => by
      obtain ⟨n1, n2⟩ := HM1.out.ne_any hqf
      have hM := HM1.out
      exact em_s6 w1 hM n1 n2 hq K.sid)).mono ?_
    rintro e w2 ⟨rfl, hb, hfr⟩
    have HB2 : Hid (BS w2 base c (bs ++ en 2 41 ++ en 2 (en 2 f.sid).length ++ (en 2 f.sid))) := Lib.hid hb
    have HM2 := Lib.hid (HM1.out.fr hfr (.inr HB1.out.isBld))
    have HF2 := Lib.hid (HF1.out.trans hfr)
    clear hb hfr
    go_wp2_with fail
    refine ⟨rfl, rfl, rfl, rfl, rfl, ?_, HM2.out, HF2.out⟩
    have h := HB2.out
    simpa only [List.append_assoc, List.append_nil, List.length_nil] using h
  · obtain rfl : b = false := by rw [hb]; simpa using ht
    have ho : one (f.sip = true) 41 (en 2 f.sid) = [] := if_neg ht
    rw [ho]
    clear ht hb ho
    conv => arg 2; whnf
    go_wp2_with fail
    exact ⟨rfl, rfl, rfl, rfl, rfl, by simpa [encX] using HB.out, HM.out, Fr.refl _ _ _⟩

theorem sl_9 {f : SH} {bs : List UInt8} (K : ShFit f) : (bs ++ encX (one (0 < f.cookie.length) 44 (en 2 f.cookie.length ++ f.cookie))).length ≤ bs.length + 70000 := by
  have hdl : (en 2 f.cookie.length ++ f.cookie).length ≤ 65540 := by have := K.cookie; simp [en_length]; omega
  have := encX_one_len (b := 0 < f.cookie.length) (ty := 44) (d := en 2 f.cookie.length ++ f.cookie)
  simp only [List.length_append] at this hdl ⊢
  omega

set_option maxRecDepth 100000 in
set_option maxHeartbeats 4000000 in
theorem sp_9 {base c x m : Nat} {f : SH} {bs : List UInt8} {s : Array Value} {b : Bool} (w : World) (K : ShFit f) (hs : s.size = 129) (h1 : s[1]? = some (.pointer (some ⟨x, 0, none⟩))) (h4 : s[4]? = some (.pointer (some ⟨c, 0, none⟩))) (hT : s[80]? = some (.bool b))
    (hb : b = decide (0 < f.cookie.length)) (hB : BS w base c bs) (hM : MsgS w base x m (shS f)) (hl : bs.length ≤ 4294967296) :
    Code.wp Try.prog ((shConds[9]?).getD .skip) (SpPost w base x m c (shS f) (bs ++ encX (one (0 < f.cookie.length) 44 (en 2 f.cookie.length ++ f.cookie))) 129) ⟨s, []⟩ w := by
  obtain ⟨z, rfl⟩ := arr129 s hs
  have e1 : z 1 = .pointer (some ⟨x, 0, none⟩) := Option.some.inj h1
  have e4 : z 4 = .pointer (some ⟨c, 0, none⟩) := Option.some.inj h4
  have eT : z 80 = .bool b := Option.some.inj hT
  rw [e1, e4, eT]
  have HB := Lib.hid hB
  have HM := Lib.hid hM
  clear hs h1 h4 hT e1 e4 eT hB hM
  by_cases ht : 0 < f.cookie.length
  · obtain rfl : b = true := by rw [hb]; simpa using ht
    have ho : one (0 < f.cookie.length) 44 (en 2 f.cookie.length ++ f.cookie) = [(44, en 2 f.cookie.length ++ f.cookie)] := if_pos ht
    rw [ho]
    have e0 : encX [(44, en 2 f.cookie.length ++ f.cookie)] = en 2 44 ++ en 2 (en 2 f.cookie.length ++ f.cookie).length ++ (en 2 f.cookie.length ++ f.cookie) := by simp [encX]
    rw [e0]
    clear ht hb ho e0
    conv => arg 2; whnf
    go_wp2_with fail
    refine (bs_add16 44 w (by omega) (by omega) HB.out (by omega)).mono ?_
    rintro e w1 ⟨rfl, hb, hfr⟩
    have HB1 : Hid (BS w1 base c (bs ++ en 2 44)) := Lib.hid hb
    have HM1 := Lib.hid (HM.out.fr hfr (.inr HB.out.isBld))
    have HF1 := Lib.hid hfr
    clear hb hfr
    go_wp2_with fail
    have ho : (en 2 f.cookie.length ++ f.cookie).length < 65536 := by have := K.cookie; simp [en_length]; omega
    refine (bs_lp2 (out := en 2 f.cookie.length ++ f.cookie) w1 ho HB1.out (by simp only [List.length_append, en_length] at ho ⊢; omega) (enter_of Try.func129 (by kernel_rfl) (by kernel_rfl)) (fun q hq hqf => by
      obtain ⟨n1, n2⟩ := HM1.out.ne_any hqf
      have hM := HM1.out
      exact em_s7 w1 hM n1 n2 hq (by have := K.cookie; omega))).mono ?_
    rintro e w2 ⟨rfl, hb, hfr⟩
    have HB2 : Hid (BS w2 base c (bs ++ en 2 44 ++ en 2 (en 2 f.cookie.length ++ f.cookie).length ++ (en 2 f.cookie.length ++ f.cookie))) := Lib.hid hb
    have HM2 := Lib.hid (HM1.out.fr hfr (.inr HB1.out.isBld))
    have HF2 := Lib.hid (HF1.out.trans hfr)
    clear hb hfr
    go_wp2_with fail
    refine ⟨rfl, rfl, rfl, rfl, rfl, ?_, HM2.out, HF2.out⟩
    have h := HB2.out
    simpa only [List.append_assoc, List.append_nil, List.length_nil] using h
  · obtain rfl : b = false := by rw [hb]; simpa using ht
    have ho : one (0 < f.cookie.length) 44 (en 2 f.cookie.length ++ f.cookie) = [] := if_neg ht
    rw [ho]
    clear ht hb ho
    conv => arg 2; whnf
    go_wp2_with fail
    exact ⟨rfl, rfl, rfl, rfl, rfl, by simpa [encX] using HB.out, HM.out, Fr.refl _ _ _⟩

theorem sl_10 {f : SH} {bs : List UInt8} (K : ShFit f) : (bs ++ encX (one (f.selg ≠ 0) 51 (en 2 f.selg))).length ≤ bs.length + 70000 := by
  have hdl : (en 2 f.selg).length ≤ 65540 := by simp [en_length]
  have := encX_one_len (b := f.selg ≠ 0) (ty := 51) (d := en 2 f.selg)
  simp only [List.length_append] at this hdl ⊢
  omega

set_option maxRecDepth 100000 in
set_option maxHeartbeats 4000000 in
theorem sp_10 {base c x m : Nat} {f : SH} {bs : List UInt8} {s : Array Value} {b : Bool} (w : World) (K : ShFit f) (hs : s.size = 129) (h1 : s[1]? = some (.pointer (some ⟨x, 0, none⟩))) (h4 : s[4]? = some (.pointer (some ⟨c, 0, none⟩))) (hT : s[88]? = some (.bool b))
    (hb : b = decide (f.selg ≠ 0)) (hB : BS w base c bs) (hM : MsgS w base x m (shS f)) (hl : bs.length ≤ 4294967296) :
    Code.wp Try.prog ((shConds[10]?).getD .skip) (SpPost w base x m c (shS f) (bs ++ encX (one (f.selg ≠ 0) 51 (en 2 f.selg))) 129) ⟨s, []⟩ w := by
  obtain ⟨z, rfl⟩ := arr129 s hs
  have e1 : z 1 = .pointer (some ⟨x, 0, none⟩) := Option.some.inj h1
  have e4 : z 4 = .pointer (some ⟨c, 0, none⟩) := Option.some.inj h4
  have eT : z 88 = .bool b := Option.some.inj hT
  rw [e1, e4, eT]
  have HB := Lib.hid hB
  have HM := Lib.hid hM
  clear hs h1 h4 hT e1 e4 eT hB hM
  by_cases ht : f.selg ≠ 0
  · obtain rfl : b = true := by rw [hb]; simpa using ht
    have ho : one (f.selg ≠ 0) 51 (en 2 f.selg) = [(51, en 2 f.selg)] := if_pos ht
    rw [ho]
    have e0 : encX [(51, en 2 f.selg)] = en 2 51 ++ en 2 (en 2 f.selg).length ++ (en 2 f.selg) := by simp [encX]
    rw [e0]
    clear ht hb ho e0
    conv => arg 2; whnf
    go_wp2_with fail
    refine (bs_add16 51 w (by omega) (by omega) HB.out (by omega)).mono ?_
    rintro e w1 ⟨rfl, hb, hfr⟩
    have HB1 : Hid (BS w1 base c (bs ++ en 2 51)) := Lib.hid hb
    have HM1 := Lib.hid (HM.out.fr hfr (.inr HB.out.isBld))
    have HF1 := Lib.hid hfr
    clear hb hfr
    go_wp2_with fail
    have ho : (en 2 f.selg).length < 65536 := by simp [en_length]
    refine (bs_lp2 (out := en 2 f.selg) w1 ho HB1.out (by simp only [List.length_append, en_length] at ho ⊢; omega) (enter_of Try.func131 (by kernel_rfl) (by kernel_rfl)) (fun q hq hqf => by
      obtain ⟨n1, n2⟩ := HM1.out.ne_any hqf
      have hM := HM1.out
      exact em_s8 w1 hM n1 n2 hq K.selg)).mono ?_
    rintro e w2 ⟨rfl, hb, hfr⟩
    have HB2 : Hid (BS w2 base c (bs ++ en 2 51 ++ en 2 (en 2 f.selg).length ++ (en 2 f.selg))) := Lib.hid hb
    have HM2 := Lib.hid (HM1.out.fr hfr (.inr HB1.out.isBld))
    have HF2 := Lib.hid (HF1.out.trans hfr)
    clear hb hfr
    go_wp2_with fail
    refine ⟨rfl, rfl, rfl, rfl, rfl, ?_, HM2.out, HF2.out⟩
    have h := HB2.out
    simpa only [List.append_assoc, List.append_nil, List.length_nil] using h
  · obtain rfl : b = false := by rw [hb]; simpa using ht
    have ho : one (f.selg ≠ 0) 51 (en 2 f.selg) = [] := if_neg ht
    rw [ho]
    clear ht hb ho
    conv => arg 2; whnf
    go_wp2_with fail
    exact ⟨rfl, rfl, rfl, rfl, rfl, by simpa [encX] using HB.out, HM.out, Fr.refl _ _ _⟩

theorem sl_11 {f : SH} {bs : List UInt8} (K : ShFit f) : (bs ++ encX (one (0 < f.pts.length) 11 (en 1 f.pts.length ++ f.pts))).length ≤ bs.length + 70000 := by
  have hdl : (en 1 f.pts.length ++ f.pts).length ≤ 65540 := by have := K.pts; simp [en_length]; omega
  have := encX_one_len (b := 0 < f.pts.length) (ty := 11) (d := en 1 f.pts.length ++ f.pts)
  simp only [List.length_append] at this hdl ⊢
  omega

set_option maxRecDepth 100000 in
set_option maxHeartbeats 4000000 in
theorem sp_11 {base c x m : Nat} {f : SH} {bs : List UInt8} {s : Array Value} {b : Bool} (w : World) (K : ShFit f) (hs : s.size = 129) (h1 : s[1]? = some (.pointer (some ⟨x, 0, none⟩))) (h4 : s[4]? = some (.pointer (some ⟨c, 0, none⟩))) (hT : s[97]? = some (.bool b))
    (hb : b = decide (0 < f.pts.length)) (hB : BS w base c bs) (hM : MsgS w base x m (shS f)) (hl : bs.length ≤ 4294967296) :
    Code.wp Try.prog ((shConds[11]?).getD .skip) (SpPost w base x m c (shS f) (bs ++ encX (one (0 < f.pts.length) 11 (en 1 f.pts.length ++ f.pts))) 129) ⟨s, []⟩ w := by
  obtain ⟨z, rfl⟩ := arr129 s hs
  have e1 : z 1 = .pointer (some ⟨x, 0, none⟩) := Option.some.inj h1
  have e4 : z 4 = .pointer (some ⟨c, 0, none⟩) := Option.some.inj h4
  have eT : z 97 = .bool b := Option.some.inj hT
  rw [e1, e4, eT]
  have HB := Lib.hid hB
  have HM := Lib.hid hM
  clear hs h1 h4 hT e1 e4 eT hB hM
  by_cases ht : 0 < f.pts.length
  · obtain rfl : b = true := by rw [hb]; simpa using ht
    have ho : one (0 < f.pts.length) 11 (en 1 f.pts.length ++ f.pts) = [(11, en 1 f.pts.length ++ f.pts)] := if_pos ht
    rw [ho]
    have e0 : encX [(11, en 1 f.pts.length ++ f.pts)] = en 2 11 ++ en 2 (en 1 f.pts.length ++ f.pts).length ++ (en 1 f.pts.length ++ f.pts) := by simp [encX]
    rw [e0]
    clear ht hb ho e0
    conv => arg 2; whnf
    go_wp2_with fail
    refine (bs_add16 11 w (by omega) (by omega) HB.out (by omega)).mono ?_
    rintro e w1 ⟨rfl, hb, hfr⟩
    have HB1 : Hid (BS w1 base c (bs ++ en 2 11)) := Lib.hid hb
    have HM1 := Lib.hid (HM.out.fr hfr (.inr HB.out.isBld))
    have HF1 := Lib.hid hfr
    clear hb hfr
    go_wp2_with fail
    have ho : (en 1 f.pts.length ++ f.pts).length < 65536 := by have := K.pts; simp [en_length]; omega
    refine (bs_lp2 (out := en 1 f.pts.length ++ f.pts) w1 ho HB1.out (by simp only [List.length_append, en_length] at ho ⊢; omega) (enter_of Try.func132 (by kernel_rfl) (by kernel_rfl)) (fun q hq hqf => by
      obtain ⟨n1, n2⟩ := HM1.out.ne_any hqf
      have hM := HM1.out
      exact em_s9 w1 hM n1 n2 hq K.pts)).mono ?_
    rintro e w2 ⟨rfl, hb, hfr⟩
    have HB2 : Hid (BS w2 base c (bs ++ en 2 11 ++ en 2 (en 1 f.pts.length ++ f.pts).length ++ (en 1 f.pts.length ++ f.pts))) := Lib.hid hb
    have HM2 := Lib.hid (HM1.out.fr hfr (.inr HB1.out.isBld))
    have HF2 := Lib.hid (HF1.out.trans hfr)
    clear hb hfr
    go_wp2_with fail
    refine ⟨rfl, rfl, rfl, rfl, rfl, ?_, HM2.out, HF2.out⟩
    have h := HB2.out
    simpa only [List.append_assoc, List.append_nil, List.length_nil] using h
  · obtain rfl : b = false := by rw [hb]; simpa using ht
    have ho : one (0 < f.pts.length) 11 (en 1 f.pts.length ++ f.pts) = [] := if_neg ht
    rw [ho]
    clear ht hb ho
    conv => arg 2; whnf
    go_wp2_with fail
    exact ⟨rfl, rfl, rfl, rfl, rfl, by simpa [encX] using HB.out, HM.out, Fr.refl _ _ _⟩

theorem sl_12 {f : SH} {bs : List UInt8} (K : ShFit f) : (bs ++ encX (one (0 < f.ech.length) 65037 (f.ech))).length ≤ bs.length + 70000 := by
  have hdl : (f.ech).length ≤ 65540 := by have := K.ech; omega
  have := encX_one_len (b := 0 < f.ech.length) (ty := 65037) (d := f.ech)
  simp only [List.length_append] at this hdl ⊢
  omega

set_option maxRecDepth 100000 in
set_option maxHeartbeats 4000000 in
theorem sp_12 {base c x m : Nat} {f : SH} {bs : List UInt8} {s : Array Value} {b : Bool} (w : World) (K : ShFit f) (hs : s.size = 129) (h1 : s[1]? = some (.pointer (some ⟨x, 0, none⟩))) (h4 : s[4]? = some (.pointer (some ⟨c, 0, none⟩))) (hT : s[106]? = some (.bool b))
    (hb : b = decide (0 < f.ech.length)) (hB : BS w base c bs) (hM : MsgS w base x m (shS f)) (hl : bs.length ≤ 4294967296) :
    Code.wp Try.prog ((shConds[12]?).getD .skip) (SpPost w base x m c (shS f) (bs ++ encX (one (0 < f.ech.length) 65037 (f.ech))) 129) ⟨s, []⟩ w := by
  obtain ⟨z, rfl⟩ := arr129 s hs
  have e1 : z 1 = .pointer (some ⟨x, 0, none⟩) := Option.some.inj h1
  have e4 : z 4 = .pointer (some ⟨c, 0, none⟩) := Option.some.inj h4
  have eT : z 106 = .bool b := Option.some.inj hT
  rw [e1, e4, eT]
  have HB := Lib.hid hB
  have HM := Lib.hid hM
  clear hs h1 h4 hT e1 e4 eT hB hM
  by_cases ht : 0 < f.ech.length
  · obtain rfl : b = true := by rw [hb]; simpa using ht
    have ho : one (0 < f.ech.length) 65037 (f.ech) = [(65037, f.ech)] := if_pos ht
    rw [ho]
    have e0 : encX [(65037, f.ech)] = en 2 65037 ++ en 2 (f.ech).length ++ (f.ech) := by simp [encX]
    rw [e0]
    clear ht hb ho e0
    conv => arg 2; whnf
    go_wp2_with fail
    refine (bs_add16 65037 w (by omega) (by omega) HB.out (by omega)).mono ?_
    rintro e w1 ⟨rfl, hb, hfr⟩
    have HB1 : Hid (BS w1 base c (bs ++ en 2 65037)) := Lib.hid hb
    have HM1 := Lib.hid (HM.out.fr hfr (.inr HB.out.isBld))
    have HF1 := Lib.hid hfr
    clear hb hfr
    go_wp2_with fail
    have ho : (f.ech).length < 65536 := K.ech
    refine (bs_lp2 (out := f.ech) w1 ho HB1.out (by simp only [List.length_append, en_length] at ho ⊢; omega) (enter_of Try.func134 (by kernel_rfl) (by kernel_rfl)) (fun q hq hqf => by
      obtain ⟨n1, n2⟩ := HM1.out.ne_any hqf
      have hM := HM1.out
      exact em_s10 w1 hM n1 n2 hq)).mono ?_
    rintro e w2 ⟨rfl, hb, hfr⟩
    have HB2 : Hid (BS w2 base c (bs ++ en 2 65037 ++ en 2 (f.ech).length ++ (f.ech))) := Lib.hid hb
    have HM2 := Lib.hid (HM1.out.fr hfr (.inr HB1.out.isBld))
    have HF2 := Lib.hid (HF1.out.trans hfr)
    clear hb hfr
    go_wp2_with fail
    refine ⟨rfl, rfl, rfl, rfl, rfl, ?_, HM2.out, HF2.out⟩
    have h := HB2.out
    simpa only [List.append_assoc, List.append_nil, List.length_nil] using h
  · obtain rfl : b = false := by rw [hb]; simpa using ht
    have ho : one (0 < f.ech.length) 65037 (f.ech) = [] := if_neg ht
    rw [ho]
    clear ht hb ho
    conv => arg 2; whnf
    go_wp2_with fail
    exact ⟨rfl, rfl, rfl, rfl, rfl, by simpa [encX] using HB.out, HM.out, Fr.refl _ _ _⟩

theorem sl_13 {f : SH} {bs : List UInt8} (K : ShFit f) : (bs ++ encX (one (f.sna = true) 0 (([] : List UInt8)))).length ≤ bs.length + 70000 := by
  have hdl : (([] : List UInt8)).length ≤ 65540 := by simp [en_length]
  have := encX_one_len (b := f.sna = true) (ty := 0) (d := ([] : List UInt8))
  simp only [List.length_append] at this hdl ⊢
  omega

set_option maxRecDepth 100000 in
set_option maxHeartbeats 4000000 in
theorem sp_13 {base c x m : Nat} {f : SH} {bs : List UInt8} {s : Array Value} {b : Bool} (w : World) (K : ShFit f) (hs : s.size = 129) (h1 : s[1]? = some (.pointer (some ⟨x, 0, none⟩))) (h4 : s[4]? = some (.pointer (some ⟨c, 0, none⟩))) (hT : s[113]? = some (.bool b))
    (hb : b = decide (f.sna = true)) (hB : BS w base c bs) (hM : MsgS w base x m (shS f)) (hl : bs.length ≤ 4294967296) :
    Code.wp Try.prog ((shConds[13]?).getD .skip) (SpPost w base x m c (shS f) (bs ++ encX (one (f.sna = true) 0 (([] : List UInt8)))) 129) ⟨s, []⟩ w := by
  obtain ⟨z, rfl⟩ := arr129 s hs
  have e1 : z 1 = .pointer (some ⟨x, 0, none⟩) := Option.some.inj h1
  have e4 : z 4 = .pointer (some ⟨c, 0, none⟩) := Option.some.inj h4
  have eT : z 113 = .bool b := Option.some.inj hT
  rw [e1, e4, eT]
  have HB := Lib.hid hB
  have HM := Lib.hid hM
  clear hs h1 h4 hT e1 e4 eT hB hM
  by_cases ht : f.sna = true
  · obtain rfl : b = true := by rw [hb]; simpa using ht
    have ho : one (f.sna = true) 0 (([] : List UInt8)) = [(0, ([] : List UInt8))] := if_pos ht
    rw [ho]
    have e0 : encX [(0, ([] : List UInt8))] = en 2 0 ++ en 2 (([] : List UInt8)).length ++ [] := by simp [encX]
    rw [e0]
    clear ht hb ho e0
    conv => arg 2; whnf
    go_wp2_with fail
    refine (bs_add16 0 w (by omega) (by omega) HB.out (by omega)).mono ?_
    rintro e w1 ⟨rfl, hb, hfr⟩
    have HB1 : Hid (BS w1 base c (bs ++ en 2 0)) := Lib.hid hb
    have HM1 := Lib.hid (HM.out.fr hfr (.inr HB.out.isBld))
    have HF1 := Lib.hid hfr
    clear hb hfr
    go_wp2_with fail
    refine (bs_add16 0 w1 (by omega) (by omega) HB1.out (by simp [en_length]; omega)).mono ?_
    rintro e w2 ⟨rfl, hb, hfr⟩
    have HB2 : Hid (BS w2 base c (bs ++ en 2 0 ++ en 2 0)) := Lib.hid hb
    have HM2 := Lib.hid (HM1.out.fr hfr (.inr HB1.out.isBld))
    have HF2 := Lib.hid (HF1.out.trans hfr)
    clear hb hfr
    go_wp2_with fail
    refine ⟨rfl, rfl, rfl, rfl, rfl, ?_, HM2.out, HF2.out⟩
    have h := HB2.out
    simpa only [List.append_assoc, List.append_nil, List.length_nil] using h
  · obtain rfl : b = false := by rw [hb]; simpa using ht
    have ho : one (f.sna = true) 0 (([] : List UInt8)) = [] := if_neg ht
    rw [ho]
    clear ht hb ho
    conv => arg 2; whnf
    go_wp2_with fail
    exact ⟨rfl, rfl, rfl, rfl, rfl, by simpa [encX] using HB.out, HM.out, Fr.refl _ _ _⟩

end Go.Proofs.Ytopcljikkdlffaa
