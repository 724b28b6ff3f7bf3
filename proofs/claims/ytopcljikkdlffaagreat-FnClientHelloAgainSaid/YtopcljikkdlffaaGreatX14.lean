/- A ClientHello is made by package tls: the pieces of its marshal. No statement of the seat is proved here. -/
import Derived.Test.YtopcljikkdlffaaGreatX13
namespace Go.Proofs.YtopcljikkdlffaaGreat
open Go.RowKit

/-- Fields that can be made. -/
structure ChK (f : CH) : Prop where
  r : ChR f
  c : chCost f ≤ 64000
  g : f.ech = [] ∨ f.psks = []

set_option maxRecDepth 100000 in
theorem arr258 (s : Array Value) (h : s.size = 258) : ∃ z : Nat → Value, s = #[z 0, z 1, z 2, z 3, z 4, z 5, z 6, z 7, z 8, z 9, z 10, z 11, z 12, z 13, z 14, z 15, z 16, z 17, z 18, z 19, z 20, z 21, z 22, z 23, z 24, z 25, z 26, z 27, z 28, z 29, z 30, z 31, z 32, z 33, z 34, z 35, z 36, z 37, z 38, z 39, z 40, z 41, z 42, z 43, z 44, z 45, z 46, z 47, z 48, z 49, z 50, z 51, z 52, z 53, z 54, z 55, z 56, z 57, z 58, z 59, z 60, z 61, z 62, z 63, z 64, z 65, z 66, z 67, z 68, z 69, z 70, z 71, z 72, z 73, z 74, z 75, z 76, z 77, z 78, z 79, z 80, z 81, z 82, z 83, z 84, z 85, z 86, z 87, z 88, z 89, z 90, z 91, z 92, z 93, z 94, z 95, z 96, z 97, z 98, z 99, z 100, z 101, z 102, z 103, z 104, z 105, z 106, z 107, z 108, z 109, z 110, z 111, z 112, z 113, z 114, z 115, z 116, z 117, z 118, z 119, z 120, z 121, z 122, z 123, z 124, z 125, z 126, z 127, z 128, z 129, z 130, z 131, z 132, z 133, z 134, z 135, z 136, z 137, z 138, z 139, z 140, z 141, z 142, z 143, z 144, z 145, z 146, z 147, z 148, z 149, z 150, z 151, z 152, z 153, z 154, z 155, z 156, z 157, z 158, z 159, z 160, z 161, z 162, z 163, z 164, z 165, z 166, z 167, z 168, z 169, z 170, z 171, z 172, z 173, z 174, z 175, z 176, z 177, z 178, z 179, z 180, z 181, z 182, z 183, z 184, z 185, z 186, z 187, z 188, z 189, z 190, z 191, z 192, z 193, z 194, z 195, z 196, z 197, z 198, z 199, z 200, z 201, z 202, z 203, z 204, z 205, z 206, z 207, z 208, z 209, z 210, z 211, z 212, z 213, z 214, z 215, z 216, z 217, z 218, z 219, z 220, z 221, z 222, z 223, z 224, z 225, z 226, z 227, z 228, z 229, z 230, z 231, z 232, z 233, z 234, z 235, z 236, z 237, z 238, z 239, z 240, z 241, z 242, z 243, z 244, z 245, z 246, z 247, z 248, z 249, z 250, z 251, z 252, z 253, z 254, z 255, z 256, z 257] := by
  obtain ⟨z, hz⟩ := arr_of 258 s h
  exact ⟨z, hz⟩

/-- A statement by its number in a piece of code. -/
def prgm (n : Nat) : Code → Option Code
  | .region k ops dr => if k = n then some (.region k ops dr) else none
  | .block _ c => prgm n c
  | .seq a b => match prgm n a with
    | some c => some c
    | none => prgm n b
  | .cond _ a b => match prgm n a with
    | some c => some c
    | none => prgm n b
  | .loop c => prgm n c
  | .scope c => prgm n c
  | _ => none

noncomputable def cmConds : List Code := conds (Tryz.f41.body.getD .skip)
noncomputable def cmReg (n : Nat) : Code := (Tryz.f41.body.bind (prgm n)).getD .skip

/-- The variables of the marshal. -/
def CmSl (x y c : Nat) (v7 : Value) (a : Act) : Prop := a.defers = [] ∧ a.tmps.size = 258 ∧ a.tmps[2]? = some (.pointer (some ⟨x, 0, none⟩)) ∧ a.tmps[3]? = some (.pointer (some ⟨y, 0, none⟩)) ∧ a.tmps[6]? = some (.pointer (some ⟨c, 0, none⟩)) ∧ a.tmps[7]? = some v7

/-- A test leaves its outcome. -/
def CtPost (x y c : Nat) (v7 : Value) (T : Nat) (b : Bool) (w : World) (e : Exit) (a : Act) (w' : World) : Prop := e = .normal ∧ w = w' ∧ CmSl x y c v7 a ∧ a.tmps[T]? = some (.bool b)

/-- Nothing was done. -/
def CnPost (x y c : Nat) (v7 : Value) (w : World) (e : Exit) (a : Act) (w' : World) : Prop := e = .normal ∧ w = w' ∧ CmSl x y c v7 a

/-- A piece leaves its bytes. -/
def CePost (w : World) (base x y m c : Nat) (v7 : Value) (F : List CD) (bs : List UInt8) (e : Exit) (a : Act) (w' : World) : Prop :=
  e = .normal ∧ CmSl x y c v7 a ∧ BS w' base c bs ∧ MsgC w' base x m F ∧ Fr base c w w'

theorem dl0 {f : CH} (K : ChK f) (ht : 0 < f.name.length) : (en 2 (en 1 0 ++ en 2 f.name.length ++ f.name).length ++ (en 1 0 ++ en 2 f.name.length ++ f.name)).length ≤ 64000 := by
  have h := pcl0 f
  have h2 : pc0 f ≤ chCost f := by unfold chCost; omega
  have h3 := K.c
  obtain ⟨D, hD⟩ : ∃ D, D = (en 2 (en 1 0 ++ en 2 f.name.length ++ f.name).length ++ (en 1 0 ++ en 2 f.name.length ++ f.name)) := ⟨_, rfl⟩
  rw [onE, if_pos ht] at h
  rw [← hD] at h ⊢
  simp only [encE, List.flatMap_cons, List.flatMap_nil, List.length_append, en_length, List.length_nil] at h
  omega

theorem cl0 {f : CH} {bs : List UInt8} (K : ChK f) : (bs ++ encE (onE (0 < f.name.length) 0 (en 2 (en 1 0 ++ en 2 f.name.length ++ f.name).length ++ (en 1 0 ++ en 2 f.name.length ++ f.name)))).length ≤ bs.length + 64000 := by
  have h := pcl0 f
  have h2 : pc0 f ≤ chCost f := by unfold chCost; omega
  have h3 := K.c
  rw [List.length_append, h]
  omega

set_option maxRecDepth 100000 in
set_option maxHeartbeats 4000000 in
theorem ct_0 {base c x y m : Nat} {f : CH} {a : Act} {v7 : Value} (w : World) (K : ChK f) (hA : CmSl x y c v7 a) (hM : MsgC w base x m (chS f)) (hY : w.heap[y]? = some (.cells #[.bool false] 4 (0, 0))) :
    Code.wp Tryz.prog (cmReg 2) (CtPost x y c v7 16 (decide (0 < f.name.length)) w) a w := by
  obtain ⟨hdf, hs, h2, h3, h6, h7⟩ := hA
  obtain ⟨s, dl⟩ := a
  simp only at hdf hs h2 h3 h6 h7
  subst hdf
  obtain ⟨z, rfl⟩ := arr258 s hs
  have e2 : z 2 = .pointer (some ⟨x, 0, none⟩) := Option.some.inj h2
  have e3 : z 3 = .pointer (some ⟨y, 0, none⟩) := Option.some.inj h3
  have e6 : z 6 = .pointer (some ⟨c, 0, none⟩) := Option.some.inj h6
  have e7 : z 7 = v7 := Option.some.inj h7
  rw [e2, e3, e6, e7]
  have cx := hM.cell
  have cy := cell_head hY
  have q := hM.val (i := 6) rfl
  clear hs h2 h3 h6 h7 e2 e3 e6 e7 hY
  conv => arg 2; whnf
  by_cases ht : 0 < f.name.length
  · have ht2 : (0 : Int) < ((f.name.length : Nat) : Int) := by omega
    rw [decide_eq_true ht]
    go_wp2_with fail
    exact ⟨rfl, rfl, ⟨rfl, rfl, rfl, rfl, rfl, rfl⟩, rfl⟩
  · have ht2 : ¬ (0 : Int) < ((f.name.length : Nat) : Int) := by omega
    rw [decide_eq_false ht]
    go_wp2_with fail
    exact ⟨rfl, rfl, ⟨rfl, rfl, rfl, rfl, rfl, rfl⟩, rfl⟩

set_option maxRecDepth 100000 in
set_option maxHeartbeats 4000000 in
theorem ce_0 {base c x y m : Nat} {f : CH} {bs : List UInt8} {a : Act} {v7 : Value} (w : World) (K : ChK f) (hA : CmSl x y c v7 a) (hT : a.tmps[16]? = some (.bool (decide (0 < f.name.length)))) (hB : BS w base c bs) (hM : MsgC w base x m (chS f)) (hY : w.heap[y]? = some (.cells #[.bool false] 4 (0, 0))) (hl : bs.length ≤ 4294967296) :
    Code.wp Tryz.prog ((cmConds[0]?).getD .skip) (CePost w base x y m c v7 (chS f) (bs ++ encE (onE (0 < f.name.length) 0 (en 2 (en 1 0 ++ en 2 f.name.length ++ f.name).length ++ (en 1 0 ++ en 2 f.name.length ++ f.name))))) a w := by
  obtain ⟨hdf, hs, h2, h3, h6, h7⟩ := hA
  obtain ⟨s, dl⟩ := a
  simp only at hdf hs h2 h3 h6 h7 hT
  subst hdf
  obtain ⟨z, rfl⟩ := arr258 s hs
  have e2 : z 2 = .pointer (some ⟨x, 0, none⟩) := Option.some.inj h2
  have e3 : z 3 = .pointer (some ⟨y, 0, none⟩) := Option.some.inj h3
  have e6 : z 6 = .pointer (some ⟨c, 0, none⟩) := Option.some.inj h6
  have e7 : z 7 = v7 := Option.some.inj h7
  have eT : z 16 = .bool (decide (0 < f.name.length)) := Option.some.inj hT
  rw [e2, e3, e6, e7, eT]
  have cy := cell_head hY
  have HB := Lib.hid hB
  have HM := Lib.hid hM
  clear hs h2 h3 h6 h7 hT e2 e3 e6 e7 eT hB hM hY
  by_cases ht : 0 < f.name.length
  · have ho : onE (0 < f.name.length) 0 (en 2 (en 1 0 ++ en 2 f.name.length ++ f.name).length ++ (en 1 0 ++ en 2 f.name.length ++ f.name)) = [(0, en 2 (en 1 0 ++ en 2 f.name.length ++ f.name).length ++ (en 1 0 ++ en 2 f.name.length ++ f.name))] := if_pos ht
    rw [ho]
    have e0 : encE [(0, en 2 (en 1 0 ++ en 2 f.name.length ++ f.name).length ++ (en 1 0 ++ en 2 f.name.length ++ f.name))] = en 2 0 ++ en 2 (en 2 (en 1 0 ++ en 2 f.name.length ++ f.name).length ++ (en 1 0 ++ en 2 f.name.length ++ f.name)).length ++ (en 2 (en 1 0 ++ en 2 f.name.length ++ f.name).length ++ (en 1 0 ++ en 2 f.name.length ++ f.name)) := by simp [encE]
    rw [e0]
    rw [decide_eq_true ht]
    clear ho e0
    have HT := Lib.hid ht
    clear ht
    conv => arg 2; whnf
    go_wp2_with fail
    refine (bs_add16 0 w (by omega) (by omega) HB.out (by omega)).mono ?_
    rintro e w1 ⟨rfl, hb, hfr⟩
    have HB1 : Hid (BS w1 base c (bs ++ en 2 0)) := Lib.hid hb
    have HM1 := Lib.hid (HM.out.fr hfr (.inr HB.out.isBld))
    have HF1 := Lib.hid hfr
    clear hb hfr
    go_wp2_with fail
    have ht := HT.out
    have ho : (en 2 (en 1 0 ++ en 2 f.name.length ++ f.name).length ++ (en 1 0 ++ en 2 f.name.length ++ f.name)).length < 65536 := by have := dl0 K ht; omega
    refine (bs_lp2 (out := en 2 (en 1 0 ++ en 2 f.name.length ++ f.name).length ++ (en 1 0 ++ en 2 f.name.length ++ f.name)) w1 ho HB1.out (by simp only [List.length_append, en_length] at ho ⊢; omega) (enter_of Tryz.func52 (by kernel_rfl) (by kernel_rfl)) (fun q hq hqf => by
      have hM := HM1.out
      exact ec_1 w1 hM hq (by have := dl0 K ht; simp only [List.length_append, en_length] at this; omega) (by have := dl0 K ht; simp only [List.length_append, en_length] at this ⊢; omega))).mono ?_
    rintro e w2 ⟨rfl, hb, hfr⟩
    have HB2 : Hid (BS w2 base c (bs ++ en 2 0 ++ en 2 (en 2 (en 1 0 ++ en 2 f.name.length ++ f.name).length ++ (en 1 0 ++ en 2 f.name.length ++ f.name)).length ++ (en 2 (en 1 0 ++ en 2 f.name.length ++ f.name).length ++ (en 1 0 ++ en 2 f.name.length ++ f.name)))) := Lib.hid hb
    have HM2 := Lib.hid (HM1.out.fr hfr (.inr HB1.out.isBld))
    have HF2 := Lib.hid (HF1.out.trans hfr)
    clear hb hfr ht
    go_wp2_with fail
    refine ⟨rfl, ⟨rfl, rfl, rfl, rfl, rfl, rfl⟩, ?_, HM2.out, HF2.out⟩
    have h := HB2.out
    simpa only [List.append_assoc, List.append_nil, List.length_nil] using h
  · have ho : onE (0 < f.name.length) 0 (en 2 (en 1 0 ++ en 2 f.name.length ++ f.name).length ++ (en 1 0 ++ en 2 f.name.length ++ f.name)) = [] := if_neg ht
    rw [ho]
    rw [decide_eq_false ht]
    clear ht ho
    conv => arg 2; whnf
    go_wp2_with fail
    exact ⟨rfl, ⟨rfl, rfl, rfl, rfl, rfl, rfl⟩, by simpa [encE] using HB.out, HM.out, Fr.refl _ _ _⟩

theorem dl1 {f : CH} (K : ChK f) (ht : 0 < f.points.length) : (en 1 f.points.length ++ f.points).length ≤ 64000 := by
  have h := pcl1 f
  have h2 : pc1 f ≤ chCost f := by unfold chCost; omega
  have h3 := K.c
  obtain ⟨D, hD⟩ : ∃ D, D = (en 1 f.points.length ++ f.points) := ⟨_, rfl⟩
  rw [onE, if_pos ht] at h
  rw [← hD] at h ⊢
  simp only [encE, List.flatMap_cons, List.flatMap_nil, List.length_append, en_length, List.length_nil] at h
  omega

theorem cl1 {f : CH} {bs : List UInt8} (K : ChK f) : (bs ++ encE (onE (0 < f.points.length) 11 (en 1 f.points.length ++ f.points))).length ≤ bs.length + 64000 := by
  have h := pcl1 f
  have h2 : pc1 f ≤ chCost f := by unfold chCost; omega
  have h3 := K.c
  rw [List.length_append, h]
  omega

set_option maxRecDepth 100000 in
set_option maxHeartbeats 4000000 in
theorem ct_1 {base c x y m : Nat} {f : CH} {a : Act} {v7 : Value} (w : World) (K : ChK f) (hA : CmSl x y c v7 a) (hM : MsgC w base x m (chS f)) (hY : w.heap[y]? = some (.cells #[.bool false] 4 (0, 0))) :
    Code.wp Tryz.prog (cmReg 5) (CtPost x y c v7 29 (decide (0 < f.points.length)) w) a w := by
  obtain ⟨hdf, hs, h2, h3, h6, h7⟩ := hA
  obtain ⟨s, dl⟩ := a
  simp only at hdf hs h2 h3 h6 h7
  subst hdf
  obtain ⟨z, rfl⟩ := arr258 s hs
  have e2 : z 2 = .pointer (some ⟨x, 0, none⟩) := Option.some.inj h2
  have e3 : z 3 = .pointer (some ⟨y, 0, none⟩) := Option.some.inj h3
  have e6 : z 6 = .pointer (some ⟨c, 0, none⟩) := Option.some.inj h6
  have e7 : z 7 = v7 := Option.some.inj h7
  rw [e2, e3, e6, e7]
  have cx := hM.cell
  have cy := cell_head hY
  obtain ⟨vq, q, hvq⟩ := hM.at (i := 9) rfl
  obtain ⟨aq, kq, rfl⟩ := SrcB.len hvq
  clear hvq
  clear hs h2 h3 h6 h7 e2 e3 e6 e7 hY
  conv => arg 2; whnf
  by_cases ht : 0 < f.points.length
  · have ht2 : (0 : Int) < ((f.points.length : Nat) : Int) := by omega
    rw [decide_eq_true ht]
    go_wp2_with fail
    exact ⟨rfl, rfl, ⟨rfl, rfl, rfl, rfl, rfl, rfl⟩, rfl⟩
  · have ht2 : ¬ (0 : Int) < ((f.points.length : Nat) : Int) := by omega
    rw [decide_eq_false ht]
    go_wp2_with fail
    exact ⟨rfl, rfl, ⟨rfl, rfl, rfl, rfl, rfl, rfl⟩, rfl⟩

set_option maxRecDepth 100000 in
set_option maxHeartbeats 4000000 in
theorem ce_1 {base c x y m : Nat} {f : CH} {bs : List UInt8} {a : Act} {v7 : Value} (w : World) (K : ChK f) (hA : CmSl x y c v7 a) (hT : a.tmps[29]? = some (.bool (decide (0 < f.points.length)))) (hB : BS w base c bs) (hM : MsgC w base x m (chS f)) (hY : w.heap[y]? = some (.cells #[.bool false] 4 (0, 0))) (hl : bs.length ≤ 4294967296) :
    Code.wp Tryz.prog ((cmConds[1]?).getD .skip) (CePost w base x y m c v7 (chS f) (bs ++ encE (onE (0 < f.points.length) 11 (en 1 f.points.length ++ f.points)))) a w := by
  obtain ⟨hdf, hs, h2, h3, h6, h7⟩ := hA
  obtain ⟨s, dl⟩ := a
  simp only at hdf hs h2 h3 h6 h7 hT
  subst hdf
  obtain ⟨z, rfl⟩ := arr258 s hs
  have e2 : z 2 = .pointer (some ⟨x, 0, none⟩) := Option.some.inj h2
  have e3 : z 3 = .pointer (some ⟨y, 0, none⟩) := Option.some.inj h3
  have e6 : z 6 = .pointer (some ⟨c, 0, none⟩) := Option.some.inj h6
  have e7 : z 7 = v7 := Option.some.inj h7
  have eT : z 29 = .bool (decide (0 < f.points.length)) := Option.some.inj hT
  rw [e2, e3, e6, e7, eT]
  have cy := cell_head hY
  have HB := Lib.hid hB
  have HM := Lib.hid hM
  clear hs h2 h3 h6 h7 hT e2 e3 e6 e7 eT hB hM hY
  by_cases ht : 0 < f.points.length
  · have ho : onE (0 < f.points.length) 11 (en 1 f.points.length ++ f.points) = [(11, en 1 f.points.length ++ f.points)] := if_pos ht
    rw [ho]
    have e0 : encE [(11, en 1 f.points.length ++ f.points)] = en 2 11 ++ en 2 (en 1 f.points.length ++ f.points).length ++ (en 1 f.points.length ++ f.points) := by simp [encE]
    rw [e0]
    rw [decide_eq_true ht]
    clear ho e0
    have HT := Lib.hid ht
    clear ht
    conv => arg 2; whnf
    go_wp2_with fail
    refine (bs_add16 11 w (by omega) (by omega) HB.out (by omega)).mono ?_
    rintro e w1 ⟨rfl, hb, hfr⟩
    have HB1 : Hid (BS w1 base c (bs ++ en 2 11)) := Lib.hid hb
    have HM1 := Lib.hid (HM.out.fr hfr (.inr HB.out.isBld))
    have HF1 := Lib.hid hfr
    clear hb hfr
    go_wp2_with fail
    have ht := HT.out
    have ho : (en 1 f.points.length ++ f.points).length < 65536 := by have := dl1 K ht; omega
    refine (bs_lp2 (out := en 1 f.points.length ++ f.points) w1 ho HB1.out (by simp only [List.length_append, en_length] at ho ⊢; omega) (enter_of Tryz.func56 (by kernel_rfl) (by kernel_rfl)) (fun q hq hqf => by
      have hM := HM1.out
      exact ec_2 w1 hM hq K.r.points)).mono ?_
    rintro e w2 ⟨rfl, hb, hfr⟩
    have HB2 : Hid (BS w2 base c (bs ++ en 2 11 ++ en 2 (en 1 f.points.length ++ f.points).length ++ (en 1 f.points.length ++ f.points))) := Lib.hid hb
    have HM2 := Lib.hid (HM1.out.fr hfr (.inr HB1.out.isBld))
    have HF2 := Lib.hid (HF1.out.trans hfr)
    clear hb hfr ht
    go_wp2_with fail
    refine ⟨rfl, ⟨rfl, rfl, rfl, rfl, rfl, rfl⟩, ?_, HM2.out, HF2.out⟩
    have h := HB2.out
    simpa only [List.append_assoc, List.append_nil, List.length_nil] using h
  · have ho : onE (0 < f.points.length) 11 (en 1 f.points.length ++ f.points) = [] := if_neg ht
    rw [ho]
    rw [decide_eq_false ht]
    clear ht ho
    conv => arg 2; whnf
    go_wp2_with fail
    exact ⟨rfl, ⟨rfl, rfl, rfl, rfl, rfl, rfl⟩, by simpa [encE] using HB.out, HM.out, Fr.refl _ _ _⟩

theorem dl2 {f : CH} (K : ChK f) (ht : f.ticket = true) : (f.tickets).length ≤ 64000 := by
  have h := pcl2 f
  have h2 : pc2 f ≤ chCost f := by unfold chCost; omega
  have h3 := K.c
  obtain ⟨D, hD⟩ : ∃ D, D = (f.tickets) := ⟨_, rfl⟩
  rw [onE, if_pos ht] at h
  rw [← hD] at h ⊢
  simp only [encE, List.flatMap_cons, List.flatMap_nil, List.length_append, en_length, List.length_nil] at h
  omega

theorem cl2 {f : CH} {bs : List UInt8} (K : ChK f) : (bs ++ encE (onE (f.ticket = true) 35 (f.tickets))).length ≤ bs.length + 64000 := by
  have h := pcl2 f
  have h2 : pc2 f ≤ chCost f := by unfold chCost; omega
  have h3 := K.c
  rw [List.length_append, h]
  omega

set_option maxRecDepth 100000 in
set_option maxHeartbeats 4000000 in
theorem ct_2 {base c x y m : Nat} {f : CH} {a : Act} {v7 : Value} (w : World) (K : ChK f) (hA : CmSl x y c v7 a) (hM : MsgC w base x m (chS f)) (hY : w.heap[y]? = some (.cells #[.bool false] 4 (0, 0))) :
    Code.wp Tryz.prog (cmReg 8) (CtPost x y c v7 40 f.ticket w) a w := by
  obtain ⟨hdf, hs, h2, h3, h6, h7⟩ := hA
  obtain ⟨s, dl⟩ := a
  simp only at hdf hs h2 h3 h6 h7
  subst hdf
  obtain ⟨z, rfl⟩ := arr258 s hs
  have e2 : z 2 = .pointer (some ⟨x, 0, none⟩) := Option.some.inj h2
  have e3 : z 3 = .pointer (some ⟨y, 0, none⟩) := Option.some.inj h3
  have e6 : z 6 = .pointer (some ⟨c, 0, none⟩) := Option.some.inj h6
  have e7 : z 7 = v7 := Option.some.inj h7
  rw [e2, e3, e6, e7]
  have cx := hM.cell
  have cy := cell_head hY
  have q := hM.val (i := 10) rfl
  clear hs h2 h3 h6 h7 e2 e3 e6 e7 hY
  conv => arg 2; whnf
  cases hb : f.ticket with
  | true =>
    rw [hb] at q
    clear hb
    go_wp2_with fail
    exact ⟨rfl, rfl, ⟨rfl, rfl, rfl, rfl, rfl, rfl⟩, rfl⟩
  | false =>
    rw [hb] at q
    clear hb
    go_wp2_with fail
    exact ⟨rfl, rfl, ⟨rfl, rfl, rfl, rfl, rfl, rfl⟩, rfl⟩

set_option maxRecDepth 100000 in
set_option maxHeartbeats 4000000 in
theorem ce_2 {base c x y m : Nat} {f : CH} {bs : List UInt8} {a : Act} {v7 : Value} (w : World) (K : ChK f) (hA : CmSl x y c v7 a) (hT : a.tmps[40]? = some (.bool f.ticket)) (hB : BS w base c bs) (hM : MsgC w base x m (chS f)) (hY : w.heap[y]? = some (.cells #[.bool false] 4 (0, 0))) (hl : bs.length ≤ 4294967296) :
    Code.wp Tryz.prog ((cmConds[2]?).getD .skip) (CePost w base x y m c v7 (chS f) (bs ++ encE (onE (f.ticket = true) 35 (f.tickets)))) a w := by
  obtain ⟨hdf, hs, h2, h3, h6, h7⟩ := hA
  obtain ⟨s, dl⟩ := a
  simp only at hdf hs h2 h3 h6 h7 hT
  subst hdf
  obtain ⟨z, rfl⟩ := arr258 s hs
  have e2 : z 2 = .pointer (some ⟨x, 0, none⟩) := Option.some.inj h2
  have e3 : z 3 = .pointer (some ⟨y, 0, none⟩) := Option.some.inj h3
  have e6 : z 6 = .pointer (some ⟨c, 0, none⟩) := Option.some.inj h6
  have e7 : z 7 = v7 := Option.some.inj h7
  have eT : z 40 = .bool f.ticket := Option.some.inj hT
  rw [e2, e3, e6, e7, eT]
  have cy := cell_head hY
  have HB := Lib.hid hB
  have HM := Lib.hid hM
  clear hs h2 h3 h6 h7 hT e2 e3 e6 e7 eT hB hM hY
  by_cases ht : f.ticket = true
  · have ho : onE (f.ticket = true) 35 (f.tickets) = [(35, f.tickets)] := if_pos ht
    rw [ho]
    have e0 : encE [(35, f.tickets)] = en 2 35 ++ en 2 (f.tickets).length ++ (f.tickets) := by simp [encE]
    rw [e0]
    rw [ht]
    clear ho e0
    have HT := Lib.hid ht
    clear ht
    conv => arg 2; whnf
    go_wp2_with fail
    refine (bs_add16 35 w (by omega) (by omega) HB.out (by omega)).mono ?_
    rintro e w1 ⟨rfl, hb, hfr⟩
    have HB1 : Hid (BS w1 base c (bs ++ en 2 35)) := Lib.hid hb
    have HM1 := Lib.hid (HM.out.fr hfr (.inr HB.out.isBld))
    have HF1 := Lib.hid hfr
    clear hb hfr
    go_wp2_with fail
    have ht := HT.out
    have ho : (f.tickets).length < 65536 := by have := dl2 K ht; omega
    refine (bs_lp2 (out := f.tickets) w1 ho HB1.out (by simp only [List.length_append, en_length] at ho ⊢; omega) (enter_of Tryz.func59 (by kernel_rfl) (by kernel_rfl)) (fun q hq hqf => by
      have hM := HM1.out
      exact ec_3 w1 hM hq)).mono ?_
    rintro e w2 ⟨rfl, hb, hfr⟩
    have HB2 : Hid (BS w2 base c (bs ++ en 2 35 ++ en 2 (f.tickets).length ++ (f.tickets))) := Lib.hid hb
    have HM2 := Lib.hid (HM1.out.fr hfr (.inr HB1.out.isBld))
    have HF2 := Lib.hid (HF1.out.trans hfr)
    clear hb hfr ht
    go_wp2_with fail
    refine ⟨rfl, ⟨rfl, rfl, rfl, rfl, rfl, rfl⟩, ?_, HM2.out, HF2.out⟩
    have h := HB2.out
    simpa only [List.append_assoc, List.append_nil, List.length_nil] using h
  · have ho : onE (f.ticket = true) 35 (f.tickets) = [] := if_neg ht
    rw [ho]
    rw [Bool.not_eq_true _ |>.mp ht]
    clear ht ho
    conv => arg 2; whnf
    go_wp2_with fail
    exact ⟨rfl, ⟨rfl, rfl, rfl, rfl, rfl, rfl⟩, by simpa [encE] using HB.out, HM.out, Fr.refl _ _ _⟩

theorem dl3 {f : CH} (K : ChK f) (ht : f.srs = true) : (en 1 f.sr.length ++ f.sr).length ≤ 64000 := by
  have h := pcl3 f
  have h2 : pc3 f ≤ chCost f := by unfold chCost; omega
  have h3 := K.c
  obtain ⟨D, hD⟩ : ∃ D, D = (en 1 f.sr.length ++ f.sr) := ⟨_, rfl⟩
  rw [onE, if_pos ht] at h
  rw [← hD] at h ⊢
  simp only [encE, List.flatMap_cons, List.flatMap_nil, List.length_append, en_length, List.length_nil] at h
  omega

theorem cl3 {f : CH} {bs : List UInt8} (K : ChK f) : (bs ++ encE (onE (f.srs = true) 65281 (en 1 f.sr.length ++ f.sr))).length ≤ bs.length + 64000 := by
  have h := pcl3 f
  have h2 : pc3 f ≤ chCost f := by unfold chCost; omega
  have h3 := K.c
  rw [List.length_append, h]
  omega

set_option maxRecDepth 100000 in
set_option maxHeartbeats 4000000 in
theorem ct_3 {base c x y m : Nat} {f : CH} {a : Act} {v7 : Value} (w : World) (K : ChK f) (hA : CmSl x y c v7 a) (hM : MsgC w base x m (chS f)) (hY : w.heap[y]? = some (.cells #[.bool false] 4 (0, 0))) :
    Code.wp Tryz.prog (cmReg 11) (CtPost x y c v7 51 f.srs w) a w := by
  obtain ⟨hdf, hs, h2, h3, h6, h7⟩ := hA
  obtain ⟨s, dl⟩ := a
  simp only at hdf hs h2 h3 h6 h7
  subst hdf
  obtain ⟨z, rfl⟩ := arr258 s hs
  have e2 : z 2 = .pointer (some ⟨x, 0, none⟩) := Option.some.inj h2
  have e3 : z 3 = .pointer (some ⟨y, 0, none⟩) := Option.some.inj h3
  have e6 : z 6 = .pointer (some ⟨c, 0, none⟩) := Option.some.inj h6
  have e7 : z 7 = v7 := Option.some.inj h7
  rw [e2, e3, e6, e7]
  have cx := hM.cell
  have cy := cell_head hY
  have q := hM.val (i := 14) rfl
  clear hs h2 h3 h6 h7 e2 e3 e6 e7 hY
  conv => arg 2; whnf
  cases hb : f.srs with
  | true =>
    rw [hb] at q
    clear hb
    go_wp2_with fail
    exact ⟨rfl, rfl, ⟨rfl, rfl, rfl, rfl, rfl, rfl⟩, rfl⟩
  | false =>
    rw [hb] at q
    clear hb
    go_wp2_with fail
    exact ⟨rfl, rfl, ⟨rfl, rfl, rfl, rfl, rfl, rfl⟩, rfl⟩

set_option maxRecDepth 100000 in
set_option maxHeartbeats 4000000 in
theorem ce_3 {base c x y m : Nat} {f : CH} {bs : List UInt8} {a : Act} {v7 : Value} (w : World) (K : ChK f) (hA : CmSl x y c v7 a) (hT : a.tmps[51]? = some (.bool f.srs)) (hB : BS w base c bs) (hM : MsgC w base x m (chS f)) (hY : w.heap[y]? = some (.cells #[.bool false] 4 (0, 0))) (hl : bs.length ≤ 4294967296) :
    Code.wp Tryz.prog ((cmConds[3]?).getD .skip) (CePost w base x y m c v7 (chS f) (bs ++ encE (onE (f.srs = true) 65281 (en 1 f.sr.length ++ f.sr)))) a w := by
  obtain ⟨hdf, hs, h2, h3, h6, h7⟩ := hA
  obtain ⟨s, dl⟩ := a
  simp only at hdf hs h2 h3 h6 h7 hT
  subst hdf
  obtain ⟨z, rfl⟩ := arr258 s hs
  have e2 : z 2 = .pointer (some ⟨x, 0, none⟩) := Option.some.inj h2
  have e3 : z 3 = .pointer (some ⟨y, 0, none⟩) := Option.some.inj h3
  have e6 : z 6 = .pointer (some ⟨c, 0, none⟩) := Option.some.inj h6
  have e7 : z 7 = v7 := Option.some.inj h7
  have eT : z 51 = .bool f.srs := Option.some.inj hT
  rw [e2, e3, e6, e7, eT]
  have cy := cell_head hY
  have HB := Lib.hid hB
  have HM := Lib.hid hM
  clear hs h2 h3 h6 h7 hT e2 e3 e6 e7 eT hB hM hY
  by_cases ht : f.srs = true
  · have ho : onE (f.srs = true) 65281 (en 1 f.sr.length ++ f.sr) = [(65281, en 1 f.sr.length ++ f.sr)] := if_pos ht
    rw [ho]
    have e0 : encE [(65281, en 1 f.sr.length ++ f.sr)] = en 2 65281 ++ en 2 (en 1 f.sr.length ++ f.sr).length ++ (en 1 f.sr.length ++ f.sr) := by simp [encE]
    rw [e0]
    rw [ht]
    clear ho e0
    have HT := Lib.hid ht
    clear ht
    conv => arg 2; whnf
    go_wp2_with fail
    refine (bs_add16 65281 w (by omega) (by omega) HB.out (by omega)).mono ?_
    rintro e w1 ⟨rfl, hb, hfr⟩
    have HB1 : Hid (BS w1 base c (bs ++ en 2 65281)) := Lib.hid hb
    have HM1 := Lib.hid (HM.out.fr hfr (.inr HB.out.isBld))
    have HF1 := Lib.hid hfr
    clear hb hfr
    go_wp2_with fail
    have ht := HT.out
    have ho : (en 1 f.sr.length ++ f.sr).length < 65536 := by have := dl3 K ht; omega
    refine (bs_lp2 (out := en 1 f.sr.length ++ f.sr) w1 ho HB1.out (by simp only [List.length_append, en_length] at ho ⊢; omega) (enter_of Tryz.func60 (by kernel_rfl) (by kernel_rfl)) (fun q hq hqf => by
      have hM := HM1.out
      exact ec_4 w1 hM hq K.r.sr)).mono ?_
    rintro e w2 ⟨rfl, hb, hfr⟩
    have HB2 : Hid (BS w2 base c (bs ++ en 2 65281 ++ en 2 (en 1 f.sr.length ++ f.sr).length ++ (en 1 f.sr.length ++ f.sr))) := Lib.hid hb
    have HM2 := Lib.hid (HM1.out.fr hfr (.inr HB1.out.isBld))
    have HF2 := Lib.hid (HF1.out.trans hfr)
    clear hb hfr ht
    go_wp2_with fail
    refine ⟨rfl, ⟨rfl, rfl, rfl, rfl, rfl, rfl⟩, ?_, HM2.out, HF2.out⟩
    have h := HB2.out
    simpa only [List.append_assoc, List.append_nil, List.length_nil] using h
  · have ho : onE (f.srs = true) 65281 (en 1 f.sr.length ++ f.sr) = [] := if_neg ht
    rw [ho]
    rw [Bool.not_eq_true _ |>.mp ht]
    clear ht ho
    conv => arg 2; whnf
    go_wp2_with fail
    exact ⟨rfl, ⟨rfl, rfl, rfl, rfl, rfl, rfl⟩, by simpa [encE] using HB.out, HM.out, Fr.refl _ _ _⟩

theorem dl4 {f : CH} (K : ChK f) (ht : f.ems = true) : (([] : List UInt8)).length ≤ 64000 := by
  have h := pcl4 f
  have h2 : pc4 f ≤ chCost f := by unfold chCost; omega
  have h3 := K.c
  obtain ⟨D, hD⟩ : ∃ D, D = (([] : List UInt8)) := ⟨_, rfl⟩
  rw [onE, if_pos ht] at h
  rw [← hD] at h ⊢
  simp only [encE, List.flatMap_cons, List.flatMap_nil, List.length_append, en_length, List.length_nil] at h
  omega

theorem cl4 {f : CH} {bs : List UInt8} (K : ChK f) : (bs ++ encE (onE (f.ems = true) 23 (([] : List UInt8)))).length ≤ bs.length + 64000 := by
  have h := pcl4 f
  have h2 : pc4 f ≤ chCost f := by unfold chCost; omega
  have h3 := K.c
  rw [List.length_append, h]
  omega

set_option maxRecDepth 100000 in
set_option maxHeartbeats 4000000 in
theorem ct_4 {base c x y m : Nat} {f : CH} {a : Act} {v7 : Value} (w : World) (K : ChK f) (hA : CmSl x y c v7 a) (hM : MsgC w base x m (chS f)) (hY : w.heap[y]? = some (.cells #[.bool false] 4 (0, 0))) :
    Code.wp Tryz.prog (cmReg 14) (CtPost x y c v7 62 f.ems w) a w := by
  obtain ⟨hdf, hs, h2, h3, h6, h7⟩ := hA
  obtain ⟨s, dl⟩ := a
  simp only at hdf hs h2 h3 h6 h7
  subst hdf
  obtain ⟨z, rfl⟩ := arr258 s hs
  have e2 : z 2 = .pointer (some ⟨x, 0, none⟩) := Option.some.inj h2
  have e3 : z 3 = .pointer (some ⟨y, 0, none⟩) := Option.some.inj h3
  have e6 : z 6 = .pointer (some ⟨c, 0, none⟩) := Option.some.inj h6
  have e7 : z 7 = v7 := Option.some.inj h7
  rw [e2, e3, e6, e7]
  have cx := hM.cell
  have cy := cell_head hY
  have q := hM.val (i := 16) rfl
  clear hs h2 h3 h6 h7 e2 e3 e6 e7 hY
  conv => arg 2; whnf
  cases hb : f.ems with
  | true =>
    rw [hb] at q
    clear hb
    go_wp2_with fail
    exact ⟨rfl, rfl, ⟨rfl, rfl, rfl, rfl, rfl, rfl⟩, rfl⟩
  | false =>
    rw [hb] at q
    clear hb
    go_wp2_with fail
    exact ⟨rfl, rfl, ⟨rfl, rfl, rfl, rfl, rfl, rfl⟩, rfl⟩

set_option maxRecDepth 100000 in
set_option maxHeartbeats 4000000 in
theorem ce_4 {base c x y m : Nat} {f : CH} {bs : List UInt8} {a : Act} {v7 : Value} (w : World) (K : ChK f) (hA : CmSl x y c v7 a) (hT : a.tmps[62]? = some (.bool f.ems)) (hB : BS w base c bs) (hM : MsgC w base x m (chS f)) (hY : w.heap[y]? = some (.cells #[.bool false] 4 (0, 0))) (hl : bs.length ≤ 4294967296) :
    Code.wp Tryz.prog ((cmConds[4]?).getD .skip) (CePost w base x y m c v7 (chS f) (bs ++ encE (onE (f.ems = true) 23 (([] : List UInt8))))) a w := by
  obtain ⟨hdf, hs, h2, h3, h6, h7⟩ := hA
  obtain ⟨s, dl⟩ := a
  simp only at hdf hs h2 h3 h6 h7 hT
  subst hdf
  obtain ⟨z, rfl⟩ := arr258 s hs
  have e2 : z 2 = .pointer (some ⟨x, 0, none⟩) := Option.some.inj h2
  have e3 : z 3 = .pointer (some ⟨y, 0, none⟩) := Option.some.inj h3
  have e6 : z 6 = .pointer (some ⟨c, 0, none⟩) := Option.some.inj h6
  have e7 : z 7 = v7 := Option.some.inj h7
  have eT : z 62 = .bool f.ems := Option.some.inj hT
  rw [e2, e3, e6, e7, eT]
  have cy := cell_head hY
  have HB := Lib.hid hB
  have HM := Lib.hid hM
  clear hs h2 h3 h6 h7 hT e2 e3 e6 e7 eT hB hM hY
  by_cases ht : f.ems = true
  · have ho : onE (f.ems = true) 23 (([] : List UInt8)) = [(23, ([] : List UInt8))] := if_pos ht
    rw [ho]
    have e0 : encE [(23, ([] : List UInt8))] = en 2 23 ++ en 2 (([] : List UInt8)).length ++ [] := by simp [encE]
    rw [e0]
    rw [ht]
    clear ho e0
    have HT := Lib.hid ht
    clear ht
    conv => arg 2; whnf
    go_wp2_with fail
    refine (bs_add16 23 w (by omega) (by omega) HB.out (by omega)).mono ?_
    rintro e w1 ⟨rfl, hb, hfr⟩
    have HB1 : Hid (BS w1 base c (bs ++ en 2 23)) := Lib.hid hb
    have HM1 := Lib.hid (HM.out.fr hfr (.inr HB.out.isBld))
    have HF1 := Lib.hid hfr
    clear hb hfr
    go_wp2_with fail
    have ht := HT.out
    refine (bs_add16 0 w1 (by omega) (by omega) HB1.out (by simp only [List.length_append, en_length]; omega)).mono ?_
    rintro e w2 ⟨rfl, hb, hfr⟩
    have HB2 : Hid (BS w2 base c (bs ++ en 2 23 ++ en 2 0)) := Lib.hid hb
    have HM2 := Lib.hid (HM1.out.fr hfr (.inr HB1.out.isBld))
    have HF2 := Lib.hid (HF1.out.trans hfr)
    clear hb hfr ht
    go_wp2_with fail
    refine ⟨rfl, ⟨rfl, rfl, rfl, rfl, rfl, rfl⟩, ?_, HM2.out, HF2.out⟩
    have h := HB2.out
    simpa only [List.append_assoc, List.append_nil, List.length_nil] using h
  · have ho : onE (f.ems = true) 23 (([] : List UInt8)) = [] := if_neg ht
    rw [ho]
    rw [Bool.not_eq_true _ |>.mp ht]
    clear ht ho
    conv => arg 2; whnf
    go_wp2_with fail
    exact ⟨rfl, ⟨rfl, rfl, rfl, rfl, rfl, rfl⟩, by simpa [encE] using HB.out, HM.out, Fr.refl _ _ _⟩

theorem dl5 {f : CH} (K : ChK f) (ht : f.scts = true) : (([] : List UInt8)).length ≤ 64000 := by
  have h := pcl5 f
  have h2 : pc5 f ≤ chCost f := by unfold chCost; omega
  have h3 := K.c
  obtain ⟨D, hD⟩ : ∃ D, D = (([] : List UInt8)) := ⟨_, rfl⟩
  rw [onE, if_pos ht] at h
  rw [← hD] at h ⊢
  simp only [encE, List.flatMap_cons, List.flatMap_nil, List.length_append, en_length, List.length_nil] at h
  omega

theorem cl5 {f : CH} {bs : List UInt8} (K : ChK f) : (bs ++ encE (onE (f.scts = true) 18 (([] : List UInt8)))).length ≤ bs.length + 64000 := by
  have h := pcl5 f
  have h2 : pc5 f ≤ chCost f := by unfold chCost; omega
  have h3 := K.c
  rw [List.length_append, h]
  omega

set_option maxRecDepth 100000 in
set_option maxHeartbeats 4000000 in
theorem ct_5 {base c x y m : Nat} {f : CH} {a : Act} {v7 : Value} (w : World) (K : ChK f) (hA : CmSl x y c v7 a) (hM : MsgC w base x m (chS f)) (hY : w.heap[y]? = some (.cells #[.bool false] 4 (0, 0))) :
    Code.wp Tryz.prog (cmReg 17) (CtPost x y c v7 68 f.scts w) a w := by
  obtain ⟨hdf, hs, h2, h3, h6, h7⟩ := hA
  obtain ⟨s, dl⟩ := a
  simp only at hdf hs h2 h3 h6 h7
  subst hdf
  obtain ⟨z, rfl⟩ := arr258 s hs
  have e2 : z 2 = .pointer (some ⟨x, 0, none⟩) := Option.some.inj h2
  have e3 : z 3 = .pointer (some ⟨y, 0, none⟩) := Option.some.inj h3
  have e6 : z 6 = .pointer (some ⟨c, 0, none⟩) := Option.some.inj h6
  have e7 : z 7 = v7 := Option.some.inj h7
  rw [e2, e3, e6, e7]
  have cx := hM.cell
  have cy := cell_head hY
  have q := hM.val (i := 18) rfl
  clear hs h2 h3 h6 h7 e2 e3 e6 e7 hY
  conv => arg 2; whnf
  cases hb : f.scts with
  | true =>
    rw [hb] at q
    clear hb
    go_wp2_with fail
    exact ⟨rfl, rfl, ⟨rfl, rfl, rfl, rfl, rfl, rfl⟩, rfl⟩
  | false =>
    rw [hb] at q
    clear hb
    go_wp2_with fail
    exact ⟨rfl, rfl, ⟨rfl, rfl, rfl, rfl, rfl, rfl⟩, rfl⟩

set_option maxRecDepth 100000 in
set_option maxHeartbeats 4000000 in
theorem ce_5 {base c x y m : Nat} {f : CH} {bs : List UInt8} {a : Act} {v7 : Value} (w : World) (K : ChK f) (hA : CmSl x y c v7 a) (hT : a.tmps[68]? = some (.bool f.scts)) (hB : BS w base c bs) (hM : MsgC w base x m (chS f)) (hY : w.heap[y]? = some (.cells #[.bool false] 4 (0, 0))) (hl : bs.length ≤ 4294967296) :
    Code.wp Tryz.prog ((cmConds[5]?).getD .skip) (CePost w base x y m c v7 (chS f) (bs ++ encE (onE (f.scts = true) 18 (([] : List UInt8))))) a w := by
  obtain ⟨hdf, hs, h2, h3, h6, h7⟩ := hA
  obtain ⟨s, dl⟩ := a
  simp only at hdf hs h2 h3 h6 h7 hT
  subst hdf
  obtain ⟨z, rfl⟩ := arr258 s hs
  have e2 : z 2 = .pointer (some ⟨x, 0, none⟩) := Option.some.inj h2
  have e3 : z 3 = .pointer (some ⟨y, 0, none⟩) := Option.some.inj h3
  have e6 : z 6 = .pointer (some ⟨c, 0, none⟩) := Option.some.inj h6
  have e7 : z 7 = v7 := Option.some.inj h7
  have eT : z 68 = .bool f.scts := Option.some.inj hT
  rw [e2, e3, e6, e7, eT]
  have cy := cell_head hY
  have HB := Lib.hid hB
  have HM := Lib.hid hM
  clear hs h2 h3 h6 h7 hT e2 e3 e6 e7 eT hB hM hY
  by_cases ht : f.scts = true
  · have ho : onE (f.scts = true) 18 (([] : List UInt8)) = [(18, ([] : List UInt8))] := if_pos ht
    rw [ho]
    have e0 : encE [(18, ([] : List UInt8))] = en 2 18 ++ en 2 (([] : List UInt8)).length ++ [] := by simp [encE]
    rw [e0]
    rw [ht]
    clear ho e0
    have HT := Lib.hid ht
    clear ht
    conv => arg 2; whnf
    go_wp2_with fail
    refine (bs_add16 18 w (by omega) (by omega) HB.out (by omega)).mono ?_
    rintro e w1 ⟨rfl, hb, hfr⟩
    have HB1 : Hid (BS w1 base c (bs ++ en 2 18)) := Lib.hid hb
    have HM1 := Lib.hid (HM.out.fr hfr (.inr HB.out.isBld))
    have HF1 := Lib.hid hfr
    clear hb hfr
    go_wp2_with fail
    have ht := HT.out
    refine (bs_add16 0 w1 (by omega) (by omega) HB1.out (by simp only [List.length_append, en_length]; omega)).mono ?_
    rintro e w2 ⟨rfl, hb, hfr⟩
    have HB2 : Hid (BS w2 base c (bs ++ en 2 18 ++ en 2 0)) := Lib.hid hb
    have HM2 := Lib.hid (HM1.out.fr hfr (.inr HB1.out.isBld))
    have HF2 := Lib.hid (HF1.out.trans hfr)
    clear hb hfr ht
    go_wp2_with fail
    refine ⟨rfl, ⟨rfl, rfl, rfl, rfl, rfl, rfl⟩, ?_, HM2.out, HF2.out⟩
    have h := HB2.out
    simpa only [List.append_assoc, List.append_nil, List.length_nil] using h
  · have ho : onE (f.scts = true) 18 (([] : List UInt8)) = [] := if_neg ht
    rw [ho]
    rw [Bool.not_eq_true _ |>.mp ht]
    clear ht ho
    conv => arg 2; whnf
    go_wp2_with fail
    exact ⟨rfl, ⟨rfl, rfl, rfl, rfl, rfl, rfl⟩, by simpa [encE] using HB.out, HM.out, Fr.refl _ _ _⟩

theorem dl6 {f : CH} (K : ChK f) (ht : f.early = true) : (([] : List UInt8)).length ≤ 64000 := by
  have h := pcl6 f
  have h2 : pc6 f ≤ chCost f := by unfold chCost; omega
  have h3 := K.c
  obtain ⟨D, hD⟩ : ∃ D, D = (([] : List UInt8)) := ⟨_, rfl⟩
  rw [onE, if_pos ht] at h
  rw [← hD] at h ⊢
  simp only [encE, List.flatMap_cons, List.flatMap_nil, List.length_append, en_length, List.length_nil] at h
  omega

theorem cl6 {f : CH} {bs : List UInt8} (K : ChK f) : (bs ++ encE (onE (f.early = true) 42 (([] : List UInt8)))).length ≤ bs.length + 64000 := by
  have h := pcl6 f
  have h2 : pc6 f ≤ chCost f := by unfold chCost; omega
  have h3 := K.c
  rw [List.length_append, h]
  omega

set_option maxRecDepth 100000 in
set_option maxHeartbeats 4000000 in
theorem ct_6 {base c x y m : Nat} {f : CH} {a : Act} {v7 : Value} (w : World) (K : ChK f) (hA : CmSl x y c v7 a) (hM : MsgC w base x m (chS f)) (hY : w.heap[y]? = some (.cells #[.bool false] 4 (0, 0))) :
    Code.wp Tryz.prog (cmReg 20) (CtPost x y c v7 74 f.early w) a w := by
  obtain ⟨hdf, hs, h2, h3, h6, h7⟩ := hA
  obtain ⟨s, dl⟩ := a
  simp only at hdf hs h2 h3 h6 h7
  subst hdf
  obtain ⟨z, rfl⟩ := arr258 s hs
  have e2 : z 2 = .pointer (some ⟨x, 0, none⟩) := Option.some.inj h2
  have e3 : z 3 = .pointer (some ⟨y, 0, none⟩) := Option.some.inj h3
  have e6 : z 6 = .pointer (some ⟨c, 0, none⟩) := Option.some.inj h6
  have e7 : z 7 = v7 := Option.some.inj h7
  rw [e2, e3, e6, e7]
  have cx := hM.cell
  have cy := cell_head hY
  have q := hM.val (i := 22) rfl
  clear hs h2 h3 h6 h7 e2 e3 e6 e7 hY
  conv => arg 2; whnf
  cases hb : f.early with
  | true =>
    rw [hb] at q
    clear hb
    go_wp2_with fail
    exact ⟨rfl, rfl, ⟨rfl, rfl, rfl, rfl, rfl, rfl⟩, rfl⟩
  | false =>
    rw [hb] at q
    clear hb
    go_wp2_with fail
    exact ⟨rfl, rfl, ⟨rfl, rfl, rfl, rfl, rfl, rfl⟩, rfl⟩

set_option maxRecDepth 100000 in
set_option maxHeartbeats 4000000 in
theorem ce_6 {base c x y m : Nat} {f : CH} {bs : List UInt8} {a : Act} {v7 : Value} (w : World) (K : ChK f) (hA : CmSl x y c v7 a) (hT : a.tmps[74]? = some (.bool f.early)) (hB : BS w base c bs) (hM : MsgC w base x m (chS f)) (hY : w.heap[y]? = some (.cells #[.bool false] 4 (0, 0))) (hl : bs.length ≤ 4294967296) :
    Code.wp Tryz.prog ((cmConds[6]?).getD .skip) (CePost w base x y m c v7 (chS f) (bs ++ encE (onE (f.early = true) 42 (([] : List UInt8))))) a w := by
  obtain ⟨hdf, hs, h2, h3, h6, h7⟩ := hA
  obtain ⟨s, dl⟩ := a
  simp only at hdf hs h2 h3 h6 h7 hT
  subst hdf
  obtain ⟨z, rfl⟩ := arr258 s hs
  have e2 : z 2 = .pointer (some ⟨x, 0, none⟩) := Option.some.inj h2
  have e3 : z 3 = .pointer (some ⟨y, 0, none⟩) := Option.some.inj h3
  have e6 : z 6 = .pointer (some ⟨c, 0, none⟩) := Option.some.inj h6
  have e7 : z 7 = v7 := Option.some.inj h7
  have eT : z 74 = .bool f.early := Option.some.inj hT
  rw [e2, e3, e6, e7, eT]
  have cy := cell_head hY
  have HB := Lib.hid hB
  have HM := Lib.hid hM
  clear hs h2 h3 h6 h7 hT e2 e3 e6 e7 eT hB hM hY
  by_cases ht : f.early = true
  · have ho : onE (f.early = true) 42 (([] : List UInt8)) = [(42, ([] : List UInt8))] := if_pos ht
    rw [ho]
    have e0 : encE [(42, ([] : List UInt8))] = en 2 42 ++ en 2 (([] : List UInt8)).length ++ [] := by simp [encE]
    rw [e0]
    rw [ht]
    clear ho e0
    have HT := Lib.hid ht
    clear ht
    conv => arg 2; whnf
    go_wp2_with fail
    refine (bs_add16 42 w (by omega) (by omega) HB.out (by omega)).mono ?_
    rintro e w1 ⟨rfl, hb, hfr⟩
    have HB1 : Hid (BS w1 base c (bs ++ en 2 42)) := Lib.hid hb
    have HM1 := Lib.hid (HM.out.fr hfr (.inr HB.out.isBld))
    have HF1 := Lib.hid hfr
    clear hb hfr
    go_wp2_with fail
    have ht := HT.out
    refine (bs_add16 0 w1 (by omega) (by omega) HB1.out (by simp only [List.length_append, en_length]; omega)).mono ?_
    rintro e w2 ⟨rfl, hb, hfr⟩
    have HB2 : Hid (BS w2 base c (bs ++ en 2 42 ++ en 2 0)) := Lib.hid hb
    have HM2 := Lib.hid (HM1.out.fr hfr (.inr HB1.out.isBld))
    have HF2 := Lib.hid (HF1.out.trans hfr)
    clear hb hfr ht
    go_wp2_with fail
    refine ⟨rfl, ⟨rfl, rfl, rfl, rfl, rfl, rfl⟩, ?_, HM2.out, HF2.out⟩
    have h := HB2.out
    simpa only [List.append_assoc, List.append_nil, List.length_nil] using h
  · have ho : onE (f.early = true) 42 (([] : List UInt8)) = [] := if_neg ht
    rw [ho]
    rw [Bool.not_eq_true _ |>.mp ht]
    clear ht ho
    conv => arg 2; whnf
    go_wp2_with fail
    exact ⟨rfl, ⟨rfl, rfl, rfl, rfl, rfl, rfl⟩, by simpa [encE] using HB.out, HM.out, Fr.refl _ _ _⟩

theorem dl7 {f : CH} (K : ChK f) (ht : f.quic.isSome = true) : (f.quic.getD []).length ≤ 64000 := by
  have h := pcl7 f
  have h2 : pc7 f ≤ chCost f := by unfold chCost; omega
  have h3 := K.c
  obtain ⟨D, hD⟩ : ∃ D, D = (f.quic.getD []) := ⟨_, rfl⟩
  rw [onE, if_pos ht] at h
  rw [← hD] at h ⊢
  simp only [encE, List.flatMap_cons, List.flatMap_nil, List.length_append, en_length, List.length_nil] at h
  omega

theorem cl7 {f : CH} {bs : List UInt8} (K : ChK f) : (bs ++ encE (onE (f.quic.isSome = true) 57 (f.quic.getD []))).length ≤ bs.length + 64000 := by
  have h := pcl7 f
  have h2 : pc7 f ≤ chCost f := by unfold chCost; omega
  have h3 := K.c
  rw [List.length_append, h]
  omega

set_option maxRecDepth 100000 in
set_option maxHeartbeats 4000000 in
theorem ct_7 {base c x y m : Nat} {f : CH} {a : Act} {v7 : Value} (w : World) (K : ChK f) (hA : CmSl x y c v7 a) (hM : MsgC w base x m (chS f)) (hY : w.heap[y]? = some (.cells #[.bool false] 4 (0, 0))) :
    Code.wp Tryz.prog (cmReg 23) (CtPost x y c v7 81 f.quic.isSome w) a w := by
  obtain ⟨hdf, hs, h2, h3, h6, h7⟩ := hA
  obtain ⟨s, dl⟩ := a
  simp only at hdf hs h2 h3 h6 h7
  subst hdf
  obtain ⟨z, rfl⟩ := arr258 s hs
  have e2 : z 2 = .pointer (some ⟨x, 0, none⟩) := Option.some.inj h2
  have e3 : z 3 = .pointer (some ⟨y, 0, none⟩) := Option.some.inj h3
  have e6 : z 6 = .pointer (some ⟨c, 0, none⟩) := Option.some.inj h6
  have e7 : z 7 = v7 := Option.some.inj h7
  rw [e2, e3, e6, e7]
  have cx := hM.cell
  have cy := cell_head hY
  obtain ⟨vq, q, _, aq, nq, kq, rfl, hq⟩ := hM.at (i := 26) rfl
  clear hs h2 h3 h6 h7 e2 e3 e6 e7 hY
  conv => arg 2; whnf
  cases hb : f.quic.isSome with
  | true =>
    rw [hb] at hq
    obtain ⟨aq, rfl⟩ := Option.isSome_iff_exists.1 hq
    clear hb hq
    go_wp2_with fail
    exact ⟨rfl, rfl, ⟨rfl, rfl, rfl, rfl, rfl, rfl⟩, rfl⟩
  | false =>
    rw [hb] at hq
    obtain rfl : aq = none := by simpa using hq
    clear hb hq
    go_wp2_with fail
    exact ⟨rfl, rfl, ⟨rfl, rfl, rfl, rfl, rfl, rfl⟩, rfl⟩

set_option maxRecDepth 100000 in
set_option maxHeartbeats 4000000 in
theorem ce_7 {base c x y m : Nat} {f : CH} {bs : List UInt8} {a : Act} {v7 : Value} (w : World) (K : ChK f) (hA : CmSl x y c v7 a) (hT : a.tmps[81]? = some (.bool f.quic.isSome)) (hB : BS w base c bs) (hM : MsgC w base x m (chS f)) (hY : w.heap[y]? = some (.cells #[.bool false] 4 (0, 0))) (hl : bs.length ≤ 4294967296) :
    Code.wp Tryz.prog ((cmConds[7]?).getD .skip) (CePost w base x y m c v7 (chS f) (bs ++ encE (onE (f.quic.isSome = true) 57 (f.quic.getD [])))) a w := by
  obtain ⟨hdf, hs, h2, h3, h6, h7⟩ := hA
  obtain ⟨s, dl⟩ := a
  simp only at hdf hs h2 h3 h6 h7 hT
  subst hdf
  obtain ⟨z, rfl⟩ := arr258 s hs
  have e2 : z 2 = .pointer (some ⟨x, 0, none⟩) := Option.some.inj h2
  have e3 : z 3 = .pointer (some ⟨y, 0, none⟩) := Option.some.inj h3
  have e6 : z 6 = .pointer (some ⟨c, 0, none⟩) := Option.some.inj h6
  have e7 : z 7 = v7 := Option.some.inj h7
  have eT : z 81 = .bool f.quic.isSome := Option.some.inj hT
  rw [e2, e3, e6, e7, eT]
  have cy := cell_head hY
  have HB := Lib.hid hB
  have HM := Lib.hid hM
  clear hs h2 h3 h6 h7 hT e2 e3 e6 e7 eT hB hM hY
  by_cases ht : f.quic.isSome = true
  · have ho : onE (f.quic.isSome = true) 57 (f.quic.getD []) = [(57, f.quic.getD [])] := if_pos ht
    rw [ho]
    have e0 : encE [(57, f.quic.getD [])] = en 2 57 ++ en 2 (f.quic.getD []).length ++ (f.quic.getD []) := by simp [encE]
    rw [e0]
    rw [ht]
    clear ho e0
    have HT := Lib.hid ht
    clear ht
    conv => arg 2; whnf
    go_wp2_with fail
    refine (bs_add16 57 w (by omega) (by omega) HB.out (by omega)).mono ?_
    rintro e w1 ⟨rfl, hb, hfr⟩
    have HB1 : Hid (BS w1 base c (bs ++ en 2 57)) := Lib.hid hb
    have HM1 := Lib.hid (HM.out.fr hfr (.inr HB.out.isBld))
    have HF1 := Lib.hid hfr
    clear hb hfr
    go_wp2_with fail
    have ht := HT.out
    have ho : (f.quic.getD []).length < 65536 := by have := dl7 K ht; omega
    refine (bs_lp2 (out := f.quic.getD []) w1 ho HB1.out (by simp only [List.length_append, en_length] at ho ⊢; omega) (enter_of Tryz.func62 (by kernel_rfl) (by kernel_rfl)) (fun q hq hqf => by
      have hM := HM1.out
      exact ec_5 w1 hM hq)).mono ?_
    rintro e w2 ⟨rfl, hb, hfr⟩
    have HB2 : Hid (BS w2 base c (bs ++ en 2 57 ++ en 2 (f.quic.getD []).length ++ (f.quic.getD []))) := Lib.hid hb
    have HM2 := Lib.hid (HM1.out.fr hfr (.inr HB1.out.isBld))
    have HF2 := Lib.hid (HF1.out.trans hfr)
    clear hb hfr ht
    go_wp2_with fail
    refine ⟨rfl, ⟨rfl, rfl, rfl, rfl, rfl, rfl⟩, ?_, HM2.out, HF2.out⟩
    have h := HB2.out
    simpa only [List.append_assoc, List.append_nil, List.length_nil] using h
  · have ho : onE (f.quic.isSome = true) 57 (f.quic.getD []) = [] := if_neg ht
    rw [ho]
    rw [Bool.not_eq_true _ |>.mp ht]
    clear ht ho
    conv => arg 2; whnf
    go_wp2_with fail
    exact ⟨rfl, ⟨rfl, rfl, rfl, rfl, rfl, rfl⟩, by simpa [encE] using HB.out, HM.out, Fr.refl _ _ _⟩

theorem dl8 {f : CH} (K : ChK f) (ht : 0 < f.ech.length) : (f.ech).length ≤ 64000 := by
  have h := pcl8 f
  have h2 : pc8 f ≤ chCost f := by unfold chCost; omega
  have h3 := K.c
  obtain ⟨D, hD⟩ : ∃ D, D = (f.ech) := ⟨_, rfl⟩
  rw [onE, if_pos ht] at h
  rw [← hD] at h ⊢
  simp only [encE, List.flatMap_cons, List.flatMap_nil, List.length_append, en_length, List.length_nil] at h
  omega

theorem cl8 {f : CH} {bs : List UInt8} (K : ChK f) : (bs ++ encE (onE (0 < f.ech.length) 65037 (f.ech))).length ≤ bs.length + 64000 := by
  have h := pcl8 f
  have h2 : pc8 f ≤ chCost f := by unfold chCost; omega
  have h3 := K.c
  rw [List.length_append, h]
  omega

set_option maxRecDepth 100000 in
set_option maxHeartbeats 4000000 in
theorem ct_8 {base c x y m : Nat} {f : CH} {a : Act} {v7 : Value} (w : World) (K : ChK f) (hA : CmSl x y c v7 a) (hM : MsgC w base x m (chS f)) (hY : w.heap[y]? = some (.cells #[.bool false] 4 (0, 0))) :
    Code.wp Tryz.prog (cmReg 26) (CtPost x y c v7 90 (decide (0 < f.ech.length)) w) a w := by
  obtain ⟨hdf, hs, h2, h3, h6, h7⟩ := hA
  obtain ⟨s, dl⟩ := a
  simp only at hdf hs h2 h3 h6 h7
  subst hdf
  obtain ⟨z, rfl⟩ := arr258 s hs
  have e2 : z 2 = .pointer (some ⟨x, 0, none⟩) := Option.some.inj h2
  have e3 : z 3 = .pointer (some ⟨y, 0, none⟩) := Option.some.inj h3
  have e6 : z 6 = .pointer (some ⟨c, 0, none⟩) := Option.some.inj h6
  have e7 : z 7 = v7 := Option.some.inj h7
  rw [e2, e3, e6, e7]
  have cx := hM.cell
  have cy := cell_head hY
  obtain ⟨vq, q, hvq⟩ := hM.at (i := 27) rfl
  obtain ⟨aq, kq, rfl⟩ := SrcB.len hvq
  clear hvq
  clear hs h2 h3 h6 h7 e2 e3 e6 e7 hY
  conv => arg 2; whnf
  by_cases ht : 0 < f.ech.length
  · have ht2 : (0 : Int) < ((f.ech.length : Nat) : Int) := by omega
    rw [decide_eq_true ht]
    go_wp2_with fail
    exact ⟨rfl, rfl, ⟨rfl, rfl, rfl, rfl, rfl, rfl⟩, rfl⟩
  · have ht2 : ¬ (0 : Int) < ((f.ech.length : Nat) : Int) := by omega
    rw [decide_eq_false ht]
    go_wp2_with fail
    exact ⟨rfl, rfl, ⟨rfl, rfl, rfl, rfl, rfl, rfl⟩, rfl⟩

set_option maxRecDepth 100000 in
set_option maxHeartbeats 4000000 in
theorem ce_8 {base c x y m : Nat} {f : CH} {bs : List UInt8} {a : Act} {v7 : Value} (w : World) (K : ChK f) (hA : CmSl x y c v7 a) (hT : a.tmps[90]? = some (.bool (decide (0 < f.ech.length)))) (hB : BS w base c bs) (hM : MsgC w base x m (chS f)) (hY : w.heap[y]? = some (.cells #[.bool false] 4 (0, 0))) (hl : bs.length ≤ 4294967296) :
    Code.wp Tryz.prog ((cmConds[8]?).getD .skip) (CePost w base x y m c v7 (chS f) (bs ++ encE (onE (0 < f.ech.length) 65037 (f.ech)))) a w := by
  obtain ⟨hdf, hs, h2, h3, h6, h7⟩ := hA
  obtain ⟨s, dl⟩ := a
  simp only at hdf hs h2 h3 h6 h7 hT
  subst hdf
  obtain ⟨z, rfl⟩ := arr258 s hs
  have e2 : z 2 = .pointer (some ⟨x, 0, none⟩) := Option.some.inj h2
  have e3 : z 3 = .pointer (some ⟨y, 0, none⟩) := Option.some.inj h3
  have e6 : z 6 = .pointer (some ⟨c, 0, none⟩) := Option.some.inj h6
  have e7 : z 7 = v7 := Option.some.inj h7
  have eT : z 90 = .bool (decide (0 < f.ech.length)) := Option.some.inj hT
  rw [e2, e3, e6, e7, eT]
  have cy := cell_head hY
  have HB := Lib.hid hB
  have HM := Lib.hid hM
  clear hs h2 h3 h6 h7 hT e2 e3 e6 e7 eT hB hM hY
  by_cases ht : 0 < f.ech.length
  · have ho : onE (0 < f.ech.length) 65037 (f.ech) = [(65037, f.ech)] := if_pos ht
    rw [ho]
    have e0 : encE [(65037, f.ech)] = en 2 65037 ++ en 2 (f.ech).length ++ (f.ech) := by simp [encE]
    rw [e0]
    rw [decide_eq_true ht]
    clear ho e0
    have HT := Lib.hid ht
    clear ht
    conv => arg 2; whnf
    go_wp2_with fail
    refine (bs_add16 65037 w (by omega) (by omega) HB.out (by omega)).mono ?_
    rintro e w1 ⟨rfl, hb, hfr⟩
    have HB1 : Hid (BS w1 base c (bs ++ en 2 65037)) := Lib.hid hb
    have HM1 := Lib.hid (HM.out.fr hfr (.inr HB.out.isBld))
    have HF1 := Lib.hid hfr
    clear hb hfr
    go_wp2_with fail
    have ht := HT.out
    have ho : (f.ech).length < 65536 := by have := dl8 K ht; omega
    refine (bs_lp2 (out := f.ech) w1 ho HB1.out (by simp only [List.length_append, en_length] at ho ⊢; omega) (enter_of Tryz.func63 (by kernel_rfl) (by kernel_rfl)) (fun q hq hqf => by
      have hM := HM1.out
      exact ec_6 w1 hM hq)).mono ?_
    rintro e w2 ⟨rfl, hb, hfr⟩
    have HB2 : Hid (BS w2 base c (bs ++ en 2 65037 ++ en 2 (f.ech).length ++ (f.ech))) := Lib.hid hb
    have HM2 := Lib.hid (HM1.out.fr hfr (.inr HB1.out.isBld))
    have HF2 := Lib.hid (HF1.out.trans hfr)
    clear hb hfr ht
    go_wp2_with fail
    refine ⟨rfl, ⟨rfl, rfl, rfl, rfl, rfl, rfl⟩, ?_, HM2.out, HF2.out⟩
    have h := HB2.out
    simpa only [List.append_assoc, List.append_nil, List.length_nil] using h
  · have ho : onE (0 < f.ech.length) 65037 (f.ech) = [] := if_neg ht
    rw [ho]
    rw [decide_eq_false ht]
    clear ht ho
    conv => arg 2; whnf
    go_wp2_with fail
    exact ⟨rfl, ⟨rfl, rfl, rfl, rfl, rfl, rfl⟩, by simpa [encE] using HB.out, HM.out, Fr.refl _ _ _⟩

theorem dl9 {f : CH} (K : ChK f) (ht : f.ocsp = true) : (en 1 1 ++ en 2 0 ++ en 2 0).length ≤ 64000 := by
  have h := pcl9 f
  have h2 : pc9 f ≤ chCost f := by unfold chCost; omega
  have h3 := K.c
  obtain ⟨D, hD⟩ : ∃ D, D = (en 1 1 ++ en 2 0 ++ en 2 0) := ⟨_, rfl⟩
  rw [onE, if_pos ht] at h
  rw [← hD] at h ⊢
  simp only [encE, List.flatMap_cons, List.flatMap_nil, List.length_append, en_length, List.length_nil] at h
  omega

theorem cl9 {f : CH} {bs : List UInt8} (K : ChK f) : (bs ++ encE (onE (f.ocsp = true) 5 (en 1 1 ++ en 2 0 ++ en 2 0))).length ≤ bs.length + 64000 := by
  have h := pcl9 f
  have h2 : pc9 f ≤ chCost f := by unfold chCost; omega
  have h3 := K.c
  rw [List.length_append, h]
  omega

set_option maxRecDepth 100000 in
set_option maxHeartbeats 4000000 in
theorem ct_9 {base c x y m : Nat} {f : CH} {a : Act} {v7 : Value} (w : World) (K : ChK f) (hA : CmSl x y c v7 a) (hM : MsgC w base x m (chS f)) (hY : w.heap[y]? = some (.cells #[.bool false] 4 (0, 0))) :
    Code.wp Tryz.prog (cmReg 30) (CtPost x y c v7 97 f.ocsp w) a w := by
  obtain ⟨hdf, hs, h2, h3, h6, h7⟩ := hA
  obtain ⟨s, dl⟩ := a
  simp only at hdf hs h2 h3 h6 h7
  subst hdf
  obtain ⟨z, rfl⟩ := arr258 s hs
  have e2 : z 2 = .pointer (some ⟨x, 0, none⟩) := Option.some.inj h2
  have e3 : z 3 = .pointer (some ⟨y, 0, none⟩) := Option.some.inj h3
  have e6 : z 6 = .pointer (some ⟨c, 0, none⟩) := Option.some.inj h6
  have e7 : z 7 = v7 := Option.some.inj h7
  rw [e2, e3, e6, e7]
  have cx := hM.cell
  have cy := cell_head hY
  have q := hM.val (i := 7) rfl
  clear hs h2 h3 h6 h7 e2 e3 e6 e7 hY
  conv => arg 2; whnf
  cases hb : f.ocsp with
  | true =>
    rw [hb] at q
    clear hb
    go_wp2_with fail
    exact ⟨rfl, rfl, ⟨rfl, rfl, rfl, rfl, rfl, rfl⟩, rfl⟩
  | false =>
    rw [hb] at q
    clear hb
    go_wp2_with fail
    exact ⟨rfl, rfl, ⟨rfl, rfl, rfl, rfl, rfl, rfl⟩, rfl⟩

set_option maxRecDepth 100000 in
set_option maxHeartbeats 4000000 in
theorem ce_9 {base c x y m : Nat} {f : CH} {bs : List UInt8} {a : Act} {v7 : Value} (w : World) (K : ChK f) (hA : CmSl x y c v7 a) (hT : a.tmps[97]? = some (.bool f.ocsp)) (hB : BS w base c bs) (hM : MsgC w base x m (chS f)) (hY : w.heap[y]? = some (.cells #[.bool false] 4 (0, 0))) (hl : bs.length ≤ 4294967296) :
    Code.wp Tryz.prog ((cmConds[9]?).getD .skip) (CePost w base x y m c v7 (chS f) (bs ++ encE (onE (f.ocsp = true) 5 (en 1 1 ++ en 2 0 ++ en 2 0)))) a w := by
  obtain ⟨hdf, hs, h2, h3, h6, h7⟩ := hA
  obtain ⟨s, dl⟩ := a
  simp only at hdf hs h2 h3 h6 h7 hT
  subst hdf
  obtain ⟨z, rfl⟩ := arr258 s hs
  have e2 : z 2 = .pointer (some ⟨x, 0, none⟩) := Option.some.inj h2
  have e3 : z 3 = .pointer (some ⟨y, 0, none⟩) := Option.some.inj h3
  have e6 : z 6 = .pointer (some ⟨c, 0, none⟩) := Option.some.inj h6
  have e7 : z 7 = v7 := Option.some.inj h7
  have eT : z 97 = .bool f.ocsp := Option.some.inj hT
  rw [e2, e3, e6, e7, eT]
  have cy := cell_head hY
  have HB := Lib.hid hB
  have HM := Lib.hid hM
  clear hs h2 h3 h6 h7 hT e2 e3 e6 e7 eT hB hM hY
  by_cases ht : f.ocsp = true
  · have ho : onE (f.ocsp = true) 5 (en 1 1 ++ en 2 0 ++ en 2 0) = [(5, en 1 1 ++ en 2 0 ++ en 2 0)] := if_pos ht
    rw [ho]
    have e0 : encE [(5, en 1 1 ++ en 2 0 ++ en 2 0)] = en 2 5 ++ en 2 (en 1 1 ++ en 2 0 ++ en 2 0).length ++ (en 1 1 ++ en 2 0 ++ en 2 0) := by simp [encE]
    rw [e0]
    rw [ht]
    clear ho e0
    have HT := Lib.hid ht
    clear ht
    conv => arg 2; whnf
    go_wp2_with fail
    refine (bs_add16 5 w (by omega) (by omega) HB.out (by omega)).mono ?_
    rintro e w1 ⟨rfl, hb, hfr⟩
    have HB1 : Hid (BS w1 base c (bs ++ en 2 5)) := Lib.hid hb
    have HM1 := Lib.hid (HM.out.fr hfr (.inr HB.out.isBld))
    have HF1 := Lib.hid hfr
    clear hb hfr
    go_wp2_with fail
    have ht := HT.out
    have ho : (en 1 1 ++ en 2 0 ++ en 2 0).length < 65536 := by have := dl9 K ht; omega
    refine (bs_lp2 (out := en 1 1 ++ en 2 0 ++ en 2 0) w1 ho HB1.out (by simp only [List.length_append, en_length] at ho ⊢; omega) (enter_of Tryz.func64 (by kernel_rfl) (by kernel_rfl)) (fun q hq hqf => by
      have hM := HM1.out
      exact ec_7 w1)).mono ?_
    rintro e w2 ⟨rfl, hb, hfr⟩
    have HB2 : Hid (BS w2 base c (bs ++ en 2 5 ++ en 2 (en 1 1 ++ en 2 0 ++ en 2 0).length ++ (en 1 1 ++ en 2 0 ++ en 2 0))) := Lib.hid hb
    have HM2 := Lib.hid (HM1.out.fr hfr (.inr HB1.out.isBld))
    have HF2 := Lib.hid (HF1.out.trans hfr)
    clear hb hfr ht
    go_wp2_with fail
    refine ⟨rfl, ⟨rfl, rfl, rfl, rfl, rfl, rfl⟩, ?_, HM2.out, HF2.out⟩
    have h := HB2.out
    simpa only [List.append_assoc, List.append_nil, List.length_nil] using h
  · have ho : onE (f.ocsp = true) 5 (en 1 1 ++ en 2 0 ++ en 2 0) = [] := if_neg ht
    rw [ho]
    rw [Bool.not_eq_true _ |>.mp ht]
    clear ht ho
    conv => arg 2; whnf
    go_wp2_with fail
    exact ⟨rfl, ⟨rfl, rfl, rfl, rfl, rfl, rfl⟩, by simpa [encE] using HB.out, HM.out, Fr.refl _ _ _⟩

theorem dl10 {f : CH} (K : ChK f) (ht : 0 < f.curves.length) : (en 2 (wnums 2 f.curves).length ++ (wnums 2 f.curves)).length ≤ 64000 := by
  have h := pcl10 f
  have h2 : pc10 f ≤ chCost f := by unfold chCost; omega
  have h3 := K.c
  obtain ⟨D, hD⟩ : ∃ D, D = (en 2 (wnums 2 f.curves).length ++ (wnums 2 f.curves)) := ⟨_, rfl⟩
  rw [onE, if_pos ht] at h
  rw [← hD] at h ⊢
  simp only [encE, List.flatMap_cons, List.flatMap_nil, List.length_append, en_length, List.length_nil] at h
  omega

theorem cl10 {f : CH} {bs : List UInt8} (K : ChK f) : (bs ++ encE (onE (0 < f.curves.length) 10 (en 2 (wnums 2 f.curves).length ++ (wnums 2 f.curves)))).length ≤ bs.length + 64000 := by
  have h := pcl10 f
  have h2 : pc10 f ≤ chCost f := by unfold chCost; omega
  have h3 := K.c
  rw [List.length_append, h]
  omega

set_option maxRecDepth 100000 in
set_option maxHeartbeats 4000000 in
theorem ct_10 {base c x y m : Nat} {f : CH} {a : Act} {v7 : Value} (w : World) (K : ChK f) (hA : CmSl x y c v7 a) (hM : MsgC w base x m (chS f)) (hY : w.heap[y]? = some (.cells #[.bool false] 4 (0, 0))) :
    Code.wp Tryz.prog (cmReg 35) (CtPost x y c v7 109 (decide (0 < f.curves.length)) w) a w := by
  obtain ⟨hdf, hs, h2, h3, h6, h7⟩ := hA
  obtain ⟨s, dl⟩ := a
  simp only at hdf hs h2 h3 h6 h7
  subst hdf
  obtain ⟨z, rfl⟩ := arr258 s hs
  have e2 : z 2 = .pointer (some ⟨x, 0, none⟩) := Option.some.inj h2
  have e3 : z 3 = .pointer (some ⟨y, 0, none⟩) := Option.some.inj h3
  have e6 : z 6 = .pointer (some ⟨c, 0, none⟩) := Option.some.inj h6
  have e7 : z 7 = v7 := Option.some.inj h7
  rw [e2, e3, e6, e7]
  have cx := hM.cell
  have cy := cell_head hY
  obtain ⟨vq, q, hvq⟩ := hM.at (i := 8) rfl
  obtain ⟨aq, kq, rfl, _⟩ := RowS.len hvq
  rw [List.length_map] at q
  clear hvq
  clear hs h2 h3 h6 h7 e2 e3 e6 e7 hY
  conv => arg 2; whnf
  by_cases ht : 0 < f.curves.length
  · have ht2 : (0 : Int) < ((f.curves.length : Nat) : Int) := by omega
    rw [decide_eq_true ht]
    go_wp2_with fail
    exact ⟨rfl, rfl, ⟨rfl, rfl, rfl, rfl, rfl, rfl⟩, rfl⟩
  · have ht2 : ¬ (0 : Int) < ((f.curves.length : Nat) : Int) := by omega
    rw [decide_eq_false ht]
    go_wp2_with fail
    exact ⟨rfl, rfl, ⟨rfl, rfl, rfl, rfl, rfl, rfl⟩, rfl⟩

set_option maxRecDepth 100000 in
set_option maxHeartbeats 4000000 in
theorem ce_10 {base c x y m : Nat} {f : CH} {bs : List UInt8} {a : Act} {v7 : Value} (w : World) (K : ChK f) (hA : CmSl x y c v7 a) (hT : a.tmps[109]? = some (.bool (decide (0 < f.curves.length)))) (hB : BS w base c bs) (hM : MsgC w base x m (chS f)) (hY : w.heap[y]? = some (.cells #[.bool false] 4 (0, 0))) (hl : bs.length ≤ 4294967296) :
    Code.wp Tryz.prog ((cmConds[10]?).getD .skip) (CePost w base x y m c v7 (chS f) (bs ++ encE (onE (0 < f.curves.length) 10 (en 2 (wnums 2 f.curves).length ++ (wnums 2 f.curves))))) a w := by
  obtain ⟨hdf, hs, h2, h3, h6, h7⟩ := hA
  obtain ⟨s, dl⟩ := a
  simp only at hdf hs h2 h3 h6 h7 hT
  subst hdf
  obtain ⟨z, rfl⟩ := arr258 s hs
  have e2 : z 2 = .pointer (some ⟨x, 0, none⟩) := Option.some.inj h2
  have e3 : z 3 = .pointer (some ⟨y, 0, none⟩) := Option.some.inj h3
  have e6 : z 6 = .pointer (some ⟨c, 0, none⟩) := Option.some.inj h6
  have e7 : z 7 = v7 := Option.some.inj h7
  have eT : z 109 = .bool (decide (0 < f.curves.length)) := Option.some.inj hT
  rw [e2, e3, e6, e7, eT]
  have cy := cell_head hY
  have HB := Lib.hid hB
  have HM := Lib.hid hM
  clear hs h2 h3 h6 h7 hT e2 e3 e6 e7 eT hB hM hY
  by_cases ht : 0 < f.curves.length
  · have ho : onE (0 < f.curves.length) 10 (en 2 (wnums 2 f.curves).length ++ (wnums 2 f.curves)) = [(10, en 2 (wnums 2 f.curves).length ++ (wnums 2 f.curves))] := if_pos ht
    rw [ho]
    have e0 : encE [(10, en 2 (wnums 2 f.curves).length ++ (wnums 2 f.curves))] = en 2 10 ++ en 2 (en 2 (wnums 2 f.curves).length ++ (wnums 2 f.curves)).length ++ (en 2 (wnums 2 f.curves).length ++ (wnums 2 f.curves)) := by simp [encE]
    rw [e0]
    rw [decide_eq_true ht]
    clear ho e0
    have HT := Lib.hid ht
    clear ht
    conv => arg 2; whnf
    go_wp2_with fail
    refine (bs_add16 10 w (by omega) (by omega) HB.out (by omega)).mono ?_
    rintro e w1 ⟨rfl, hb, hfr⟩
    have HB1 : Hid (BS w1 base c (bs ++ en 2 10)) := Lib.hid hb
    have HM1 := Lib.hid (HM.out.fr hfr (.inr HB.out.isBld))
    have HF1 := Lib.hid hfr
    clear hb hfr
    go_wp2_with fail
    have ht := HT.out
    have ho : (en 2 (wnums 2 f.curves).length ++ (wnums 2 f.curves)).length < 65536 := by have := dl10 K ht; omega
    refine (bs_lp2 (out := en 2 (wnums 2 f.curves).length ++ (wnums 2 f.curves)) w1 ho HB1.out (by simp only [List.length_append, en_length] at ho ⊢; omega) (enter_of Tryz.func65 (by kernel_rfl) (by kernel_rfl)) (fun q hq hqf => by
      have hM := HM1.out
      exact ec_8 w1 hM hq K.r.curves (by have := dl10 K ht; simp only [List.length_append, en_length, wnums_len] at this; omega) (by have := dl10 K ht; simp only [List.length_append, en_length] at this; omega))).mono ?_
    rintro e w2 ⟨rfl, hb, hfr⟩
    have HB2 : Hid (BS w2 base c (bs ++ en 2 10 ++ en 2 (en 2 (wnums 2 f.curves).length ++ (wnums 2 f.curves)).length ++ (en 2 (wnums 2 f.curves).length ++ (wnums 2 f.curves)))) := Lib.hid hb
    have HM2 := Lib.hid (HM1.out.fr hfr (.inr HB1.out.isBld))
    have HF2 := Lib.hid (HF1.out.trans hfr)
    clear hb hfr ht
    go_wp2_with fail
    refine ⟨rfl, ⟨rfl, rfl, rfl, rfl, rfl, rfl⟩, ?_, HM2.out, HF2.out⟩
    have h := HB2.out
    simpa only [List.append_assoc, List.append_nil, List.length_nil] using h
  · have ho : onE (0 < f.curves.length) 10 (en 2 (wnums 2 f.curves).length ++ (wnums 2 f.curves)) = [] := if_neg ht
    rw [ho]
    rw [decide_eq_false ht]
    clear ht ho
    conv => arg 2; whnf
    go_wp2_with fail
    exact ⟨rfl, ⟨rfl, rfl, rfl, rfl, rfl, rfl⟩, by simpa [encE] using HB.out, HM.out, Fr.refl _ _ _⟩

theorem dl11 {f : CH} (K : ChK f) (ht : 0 < f.sigs.length) : (en 2 (wnums 2 f.sigs).length ++ (wnums 2 f.sigs)).length ≤ 64000 := by
  have h := pcl11 f
  have h2 : pc11 f ≤ chCost f := by unfold chCost; omega
  have h3 := K.c
  obtain ⟨D, hD⟩ : ∃ D, D = (en 2 (wnums 2 f.sigs).length ++ (wnums 2 f.sigs)) := ⟨_, rfl⟩
  rw [onE, if_pos ht] at h
  rw [← hD] at h ⊢
  simp only [encE, List.flatMap_cons, List.flatMap_nil, List.length_append, en_length, List.length_nil] at h
  omega

theorem cl11 {f : CH} {bs : List UInt8} (K : ChK f) : (bs ++ encE (onE (0 < f.sigs.length) 13 (en 2 (wnums 2 f.sigs).length ++ (wnums 2 f.sigs)))).length ≤ bs.length + 64000 := by
  have h := pcl11 f
  have h2 : pc11 f ≤ chCost f := by unfold chCost; omega
  have h3 := K.c
  rw [List.length_append, h]
  omega

set_option maxRecDepth 100000 in
set_option maxHeartbeats 4000000 in
theorem ct_11 {base c x y m : Nat} {f : CH} {a : Act} {v7 : Value} (w : World) (K : ChK f) (hA : CmSl x y c v7 a) (hM : MsgC w base x m (chS f)) (hY : w.heap[y]? = some (.cells #[.bool false] 4 (0, 0))) :
    Code.wp Tryz.prog (cmReg 40) (CtPost x y c v7 122 (decide (0 < f.sigs.length)) w) a w := by
  obtain ⟨hdf, hs, h2, h3, h6, h7⟩ := hA
  obtain ⟨s, dl⟩ := a
  simp only at hdf hs h2 h3 h6 h7
  subst hdf
  obtain ⟨z, rfl⟩ := arr258 s hs
  have e2 : z 2 = .pointer (some ⟨x, 0, none⟩) := Option.some.inj h2
  have e3 : z 3 = .pointer (some ⟨y, 0, none⟩) := Option.some.inj h3
  have e6 : z 6 = .pointer (some ⟨c, 0, none⟩) := Option.some.inj h6
  have e7 : z 7 = v7 := Option.some.inj h7
  rw [e2, e3, e6, e7]
  have cx := hM.cell
  have cy := cell_head hY
  obtain ⟨vq, q, hvq⟩ := hM.at (i := 12) rfl
  obtain ⟨aq, kq, rfl, _⟩ := RowS.len hvq
  rw [List.length_map] at q
  clear hvq
  clear hs h2 h3 h6 h7 e2 e3 e6 e7 hY
  conv => arg 2; whnf
  by_cases ht : 0 < f.sigs.length
  · have ht2 : (0 : Int) < ((f.sigs.length : Nat) : Int) := by omega
    rw [decide_eq_true ht]
    go_wp2_with fail
    exact ⟨rfl, rfl, ⟨rfl, rfl, rfl, rfl, rfl, rfl⟩, rfl⟩
  · have ht2 : ¬ (0 : Int) < ((f.sigs.length : Nat) : Int) := by omega
    rw [decide_eq_false ht]
    go_wp2_with fail
    exact ⟨rfl, rfl, ⟨rfl, rfl, rfl, rfl, rfl, rfl⟩, rfl⟩

set_option maxRecDepth 100000 in
set_option maxHeartbeats 4000000 in
theorem ce_11 {base c x y m : Nat} {f : CH} {bs : List UInt8} {a : Act} {v7 : Value} (w : World) (K : ChK f) (hA : CmSl x y c v7 a) (hT : a.tmps[122]? = some (.bool (decide (0 < f.sigs.length)))) (hB : BS w base c bs) (hM : MsgC w base x m (chS f)) (hY : w.heap[y]? = some (.cells #[.bool false] 4 (0, 0))) (hl : bs.length ≤ 4294967296) :
    Code.wp Tryz.prog ((cmConds[11]?).getD .skip) (CePost w base x y m c v7 (chS f) (bs ++ encE (onE (0 < f.sigs.length) 13 (en 2 (wnums 2 f.sigs).length ++ (wnums 2 f.sigs))))) a w := by
  obtain ⟨hdf, hs, h2, h3, h6, h7⟩ := hA
  obtain ⟨s, dl⟩ := a
  simp only at hdf hs h2 h3 h6 h7 hT
  subst hdf
  obtain ⟨z, rfl⟩ := arr258 s hs
  have e2 : z 2 = .pointer (some ⟨x, 0, none⟩) := Option.some.inj h2
  have e3 : z 3 = .pointer (some ⟨y, 0, none⟩) := Option.some.inj h3
  have e6 : z 6 = .pointer (some ⟨c, 0, none⟩) := Option.some.inj h6
  have e7 : z 7 = v7 := Option.some.inj h7
  have eT : z 122 = .bool (decide (0 < f.sigs.length)) := Option.some.inj hT
  rw [e2, e3, e6, e7, eT]
  have cy := cell_head hY
  have HB := Lib.hid hB
  have HM := Lib.hid hM
  clear hs h2 h3 h6 h7 hT e2 e3 e6 e7 eT hB hM hY
  by_cases ht : 0 < f.sigs.length
  · have ho : onE (0 < f.sigs.length) 13 (en 2 (wnums 2 f.sigs).length ++ (wnums 2 f.sigs)) = [(13, en 2 (wnums 2 f.sigs).length ++ (wnums 2 f.sigs))] := if_pos ht
    rw [ho]
    have e0 : encE [(13, en 2 (wnums 2 f.sigs).length ++ (wnums 2 f.sigs))] = en 2 13 ++ en 2 (en 2 (wnums 2 f.sigs).length ++ (wnums 2 f.sigs)).length ++ (en 2 (wnums 2 f.sigs).length ++ (wnums 2 f.sigs)) := by simp [encE]
    rw [e0]
    rw [decide_eq_true ht]
    clear ho e0
    have HT := Lib.hid ht
    clear ht
    conv => arg 2; whnf
    go_wp2_with fail
    refine (bs_add16 13 w (by omega) (by omega) HB.out (by omega)).mono ?_
    rintro e w1 ⟨rfl, hb, hfr⟩
    have HB1 : Hid (BS w1 base c (bs ++ en 2 13)) := Lib.hid hb
    have HM1 := Lib.hid (HM.out.fr hfr (.inr HB.out.isBld))
    have HF1 := Lib.hid hfr
    clear hb hfr
    go_wp2_with fail
    have ht := HT.out
    have ho : (en 2 (wnums 2 f.sigs).length ++ (wnums 2 f.sigs)).length < 65536 := by have := dl11 K ht; omega
    refine (bs_lp2 (out := en 2 (wnums 2 f.sigs).length ++ (wnums 2 f.sigs)) w1 ho HB1.out (by simp only [List.length_append, en_length] at ho ⊢; omega) (enter_of Tryz.func67 (by kernel_rfl) (by kernel_rfl)) (fun q hq hqf => by
      have hM := HM1.out
      exact ec_9 w1 hM hq K.r.sigs (by have := dl11 K ht; simp only [List.length_append, en_length, wnums_len] at this; omega) (by have := dl11 K ht; simp only [List.length_append, en_length] at this; omega))).mono ?_
    rintro e w2 ⟨rfl, hb, hfr⟩
    have HB2 : Hid (BS w2 base c (bs ++ en 2 13 ++ en 2 (en 2 (wnums 2 f.sigs).length ++ (wnums 2 f.sigs)).length ++ (en 2 (wnums 2 f.sigs).length ++ (wnums 2 f.sigs)))) := Lib.hid hb
    have HM2 := Lib.hid (HM1.out.fr hfr (.inr HB1.out.isBld))
    have HF2 := Lib.hid (HF1.out.trans hfr)
    clear hb hfr ht
    go_wp2_with fail
    refine ⟨rfl, ⟨rfl, rfl, rfl, rfl, rfl, rfl⟩, ?_, HM2.out, HF2.out⟩
    have h := HB2.out
    simpa only [List.append_assoc, List.append_nil, List.length_nil] using h
  · have ho : onE (0 < f.sigs.length) 13 (en 2 (wnums 2 f.sigs).length ++ (wnums 2 f.sigs)) = [] := if_neg ht
    rw [ho]
    rw [decide_eq_false ht]
    clear ht ho
    conv => arg 2; whnf
    go_wp2_with fail
    exact ⟨rfl, ⟨rfl, rfl, rfl, rfl, rfl, rfl⟩, by simpa [encE] using HB.out, HM.out, Fr.refl _ _ _⟩

theorem dl12 {f : CH} (K : ChK f) (ht : 0 < f.sigsC.length) : (en 2 (wnums 2 f.sigsC).length ++ (wnums 2 f.sigsC)).length ≤ 64000 := by
  have h := pcl12 f
  have h2 : pc12 f ≤ chCost f := by unfold chCost; omega
  have h3 := K.c
  obtain ⟨D, hD⟩ : ∃ D, D = (en 2 (wnums 2 f.sigsC).length ++ (wnums 2 f.sigsC)) := ⟨_, rfl⟩
  rw [onE, if_pos ht] at h
  rw [← hD] at h ⊢
  simp only [encE, List.flatMap_cons, List.flatMap_nil, List.length_append, en_length, List.length_nil] at h
  omega

theorem cl12 {f : CH} {bs : List UInt8} (K : ChK f) : (bs ++ encE (onE (0 < f.sigsC.length) 50 (en 2 (wnums 2 f.sigsC).length ++ (wnums 2 f.sigsC)))).length ≤ bs.length + 64000 := by
  have h := pcl12 f
  have h2 : pc12 f ≤ chCost f := by unfold chCost; omega
  have h3 := K.c
  rw [List.length_append, h]
  omega

set_option maxRecDepth 100000 in
set_option maxHeartbeats 4000000 in
theorem ct_12 {base c x y m : Nat} {f : CH} {a : Act} {v7 : Value} (w : World) (K : ChK f) (hA : CmSl x y c v7 a) (hM : MsgC w base x m (chS f)) (hY : w.heap[y]? = some (.cells #[.bool false] 4 (0, 0))) :
    Code.wp Tryz.prog (cmReg 45) (CtPost x y c v7 135 (decide (0 < f.sigsC.length)) w) a w := by
  obtain ⟨hdf, hs, h2, h3, h6, h7⟩ := hA
  obtain ⟨s, dl⟩ := a
  simp only at hdf hs h2 h3 h6 h7
  subst hdf
  obtain ⟨z, rfl⟩ := arr258 s hs
  have e2 : z 2 = .pointer (some ⟨x, 0, none⟩) := Option.some.inj h2
  have e3 : z 3 = .pointer (some ⟨y, 0, none⟩) := Option.some.inj h3
  have e6 : z 6 = .pointer (some ⟨c, 0, none⟩) := Option.some.inj h6
  have e7 : z 7 = v7 := Option.some.inj h7
  rw [e2, e3, e6, e7]
  have cx := hM.cell
  have cy := cell_head hY
  obtain ⟨vq, q, hvq⟩ := hM.at (i := 13) rfl
  obtain ⟨aq, kq, rfl, _⟩ := RowS.len hvq
  rw [List.length_map] at q
  clear hvq
  clear hs h2 h3 h6 h7 e2 e3 e6 e7 hY
  conv => arg 2; whnf
  by_cases ht : 0 < f.sigsC.length
  · have ht2 : (0 : Int) < ((f.sigsC.length : Nat) : Int) := by omega
    rw [decide_eq_true ht]
    go_wp2_with fail
    exact ⟨rfl, rfl, ⟨rfl, rfl, rfl, rfl, rfl, rfl⟩, rfl⟩
  · have ht2 : ¬ (0 : Int) < ((f.sigsC.length : Nat) : Int) := by omega
    rw [decide_eq_false ht]
    go_wp2_with fail
    exact ⟨rfl, rfl, ⟨rfl, rfl, rfl, rfl, rfl, rfl⟩, rfl⟩

set_option maxRecDepth 100000 in
set_option maxHeartbeats 4000000 in
theorem ce_12 {base c x y m : Nat} {f : CH} {bs : List UInt8} {a : Act} {v7 : Value} (w : World) (K : ChK f) (hA : CmSl x y c v7 a) (hT : a.tmps[135]? = some (.bool (decide (0 < f.sigsC.length)))) (hB : BS w base c bs) (hM : MsgC w base x m (chS f)) (hY : w.heap[y]? = some (.cells #[.bool false] 4 (0, 0))) (hl : bs.length ≤ 4294967296) :
    Code.wp Tryz.prog ((cmConds[12]?).getD .skip) (CePost w base x y m c v7 (chS f) (bs ++ encE (onE (0 < f.sigsC.length) 50 (en 2 (wnums 2 f.sigsC).length ++ (wnums 2 f.sigsC))))) a w := by
  obtain ⟨hdf, hs, h2, h3, h6, h7⟩ := hA
  obtain ⟨s, dl⟩ := a
  simp only at hdf hs h2 h3 h6 h7 hT
  subst hdf
  obtain ⟨z, rfl⟩ := arr258 s hs
  have e2 : z 2 = .pointer (some ⟨x, 0, none⟩) := Option.some.inj h2
  have e3 : z 3 = .pointer (some ⟨y, 0, none⟩) := Option.some.inj h3
  have e6 : z 6 = .pointer (some ⟨c, 0, none⟩) := Option.some.inj h6
  have e7 : z 7 = v7 := Option.some.inj h7
  have eT : z 135 = .bool (decide (0 < f.sigsC.length)) := Option.some.inj hT
  rw [e2, e3, e6, e7, eT]
  have cy := cell_head hY
  have HB := Lib.hid hB
  have HM := Lib.hid hM
  clear hs h2 h3 h6 h7 hT e2 e3 e6 e7 eT hB hM hY
  by_cases ht : 0 < f.sigsC.length
  · have ho : onE (0 < f.sigsC.length) 50 (en 2 (wnums 2 f.sigsC).length ++ (wnums 2 f.sigsC)) = [(50, en 2 (wnums 2 f.sigsC).length ++ (wnums 2 f.sigsC))] := if_pos ht
    rw [ho]
    have e0 : encE [(50, en 2 (wnums 2 f.sigsC).length ++ (wnums 2 f.sigsC))] = en 2 50 ++ en 2 (en 2 (wnums 2 f.sigsC).length ++ (wnums 2 f.sigsC)).length ++ (en 2 (wnums 2 f.sigsC).length ++ (wnums 2 f.sigsC)) := by simp [encE]
    rw [e0]
    rw [decide_eq_true ht]
    clear ho e0
    have HT := Lib.hid ht
    clear ht
    conv => arg 2; whnf
    go_wp2_with fail
    refine (bs_add16 50 w (by omega) (by omega) HB.out (by omega)).mono ?_
    rintro e w1 ⟨rfl, hb, hfr⟩
    have HB1 : Hid (BS w1 base c (bs ++ en 2 50)) := Lib.hid hb
    have HM1 := Lib.hid (HM.out.fr hfr (.inr HB.out.isBld))
    have HF1 := Lib.hid hfr
    clear hb hfr
    go_wp2_with fail
    have ht := HT.out
    have ho : (en 2 (wnums 2 f.sigsC).length ++ (wnums 2 f.sigsC)).length < 65536 := by have := dl12 K ht; omega
    refine (bs_lp2 (out := en 2 (wnums 2 f.sigsC).length ++ (wnums 2 f.sigsC)) w1 ho HB1.out (by simp only [List.length_append, en_length] at ho ⊢; omega) (enter_of Tryz.func69 (by kernel_rfl) (by kernel_rfl)) (fun q hq hqf => by
      have hM := HM1.out
      exact ec_10 w1 hM hq K.r.sigsC (by have := dl12 K ht; simp only [List.length_append, en_length, wnums_len] at this; omega) (by have := dl12 K ht; simp only [List.length_append, en_length] at this; omega))).mono ?_
    rintro e w2 ⟨rfl, hb, hfr⟩
    have HB2 : Hid (BS w2 base c (bs ++ en 2 50 ++ en 2 (en 2 (wnums 2 f.sigsC).length ++ (wnums 2 f.sigsC)).length ++ (en 2 (wnums 2 f.sigsC).length ++ (wnums 2 f.sigsC)))) := Lib.hid hb
    have HM2 := Lib.hid (HM1.out.fr hfr (.inr HB1.out.isBld))
    have HF2 := Lib.hid (HF1.out.trans hfr)
    clear hb hfr ht
    go_wp2_with fail
    refine ⟨rfl, ⟨rfl, rfl, rfl, rfl, rfl, rfl⟩, ?_, HM2.out, HF2.out⟩
    have h := HB2.out
    simpa only [List.append_assoc, List.append_nil, List.length_nil] using h
  · have ho : onE (0 < f.sigsC.length) 50 (en 2 (wnums 2 f.sigsC).length ++ (wnums 2 f.sigsC)) = [] := if_neg ht
    rw [ho]
    rw [decide_eq_false ht]
    clear ht ho
    conv => arg 2; whnf
    go_wp2_with fail
    exact ⟨rfl, ⟨rfl, rfl, rfl, rfl, rfl, rfl⟩, by simpa [encE] using HB.out, HM.out, Fr.refl _ _ _⟩

theorem dl13 {f : CH} (K : ChK f) (ht : 0 < f.alpn.length) : (en 2 (vecs 1 f.alpn).length ++ (vecs 1 f.alpn)).length ≤ 64000 := by
  have h := pcl13 f
  have h2 : pc13 f ≤ chCost f := by unfold chCost; omega
  have h3 := K.c
  obtain ⟨D, hD⟩ : ∃ D, D = (en 2 (vecs 1 f.alpn).length ++ (vecs 1 f.alpn)) := ⟨_, rfl⟩
  rw [onE, if_pos ht] at h
  rw [← hD] at h ⊢
  simp only [encE, List.flatMap_cons, List.flatMap_nil, List.length_append, en_length, List.length_nil] at h
  omega

theorem cl13 {f : CH} {bs : List UInt8} (K : ChK f) : (bs ++ encE (onE (0 < f.alpn.length) 16 (en 2 (vecs 1 f.alpn).length ++ (vecs 1 f.alpn)))).length ≤ bs.length + 64000 := by
  have h := pcl13 f
  have h2 : pc13 f ≤ chCost f := by unfold chCost; omega
  have h3 := K.c
  rw [List.length_append, h]
  omega

set_option maxRecDepth 100000 in
set_option maxHeartbeats 4000000 in
theorem ct_13 {base c x y m : Nat} {f : CH} {a : Act} {v7 : Value} (w : World) (K : ChK f) (hA : CmSl x y c v7 a) (hM : MsgC w base x m (chS f)) (hY : w.heap[y]? = some (.cells #[.bool false] 4 (0, 0))) :
    Code.wp Tryz.prog (cmReg 50) (CtPost x y c v7 148 (decide (0 < f.alpn.length)) w) a w := by
  obtain ⟨hdf, hs, h2, h3, h6, h7⟩ := hA
  obtain ⟨s, dl⟩ := a
  simp only at hdf hs h2 h3 h6 h7
  subst hdf
  obtain ⟨z, rfl⟩ := arr258 s hs
  have e2 : z 2 = .pointer (some ⟨x, 0, none⟩) := Option.some.inj h2
  have e3 : z 3 = .pointer (some ⟨y, 0, none⟩) := Option.some.inj h3
  have e6 : z 6 = .pointer (some ⟨c, 0, none⟩) := Option.some.inj h6
  have e7 : z 7 = v7 := Option.some.inj h7
  rw [e2, e3, e6, e7]
  have cx := hM.cell
  have cy := cell_head hY
  obtain ⟨vq, q, hvq⟩ := hM.at (i := 17) rfl
  obtain ⟨aq, kq, rfl, _⟩ := RowS.len hvq
  rw [List.length_map] at q
  clear hvq
  clear hs h2 h3 h6 h7 e2 e3 e6 e7 hY
  conv => arg 2; whnf
  by_cases ht : 0 < f.alpn.length
  · have ht2 : (0 : Int) < ((f.alpn.length : Nat) : Int) := by omega
    rw [decide_eq_true ht]
    go_wp2_with fail
    exact ⟨rfl, rfl, ⟨rfl, rfl, rfl, rfl, rfl, rfl⟩, rfl⟩
  · have ht2 : ¬ (0 : Int) < ((f.alpn.length : Nat) : Int) := by omega
    rw [decide_eq_false ht]
    go_wp2_with fail
    exact ⟨rfl, rfl, ⟨rfl, rfl, rfl, rfl, rfl, rfl⟩, rfl⟩

set_option maxRecDepth 100000 in
set_option maxHeartbeats 4000000 in
theorem ce_13 {base c x y m : Nat} {f : CH} {bs : List UInt8} {a : Act} {v7 : Value} (w : World) (K : ChK f) (hA : CmSl x y c v7 a) (hT : a.tmps[148]? = some (.bool (decide (0 < f.alpn.length)))) (hB : BS w base c bs) (hM : MsgC w base x m (chS f)) (hY : w.heap[y]? = some (.cells #[.bool false] 4 (0, 0))) (hl : bs.length ≤ 4294967296) :
    Code.wp Tryz.prog ((cmConds[13]?).getD .skip) (CePost w base x y m c v7 (chS f) (bs ++ encE (onE (0 < f.alpn.length) 16 (en 2 (vecs 1 f.alpn).length ++ (vecs 1 f.alpn))))) a w := by
  obtain ⟨hdf, hs, h2, h3, h6, h7⟩ := hA
  obtain ⟨s, dl⟩ := a
  simp only at hdf hs h2 h3 h6 h7 hT
  subst hdf
  obtain ⟨z, rfl⟩ := arr258 s hs
  have e2 : z 2 = .pointer (some ⟨x, 0, none⟩) := Option.some.inj h2
  have e3 : z 3 = .pointer (some ⟨y, 0, none⟩) := Option.some.inj h3
  have e6 : z 6 = .pointer (some ⟨c, 0, none⟩) := Option.some.inj h6
  have e7 : z 7 = v7 := Option.some.inj h7
  have eT : z 148 = .bool (decide (0 < f.alpn.length)) := Option.some.inj hT
  rw [e2, e3, e6, e7, eT]
  have cy := cell_head hY
  have HB := Lib.hid hB
  have HM := Lib.hid hM
  clear hs h2 h3 h6 h7 hT e2 e3 e6 e7 eT hB hM hY
  by_cases ht : 0 < f.alpn.length
  · have ho : onE (0 < f.alpn.length) 16 (en 2 (vecs 1 f.alpn).length ++ (vecs 1 f.alpn)) = [(16, en 2 (vecs 1 f.alpn).length ++ (vecs 1 f.alpn))] := if_pos ht
    rw [ho]
    have e0 : encE [(16, en 2 (vecs 1 f.alpn).length ++ (vecs 1 f.alpn))] = en 2 16 ++ en 2 (en 2 (vecs 1 f.alpn).length ++ (vecs 1 f.alpn)).length ++ (en 2 (vecs 1 f.alpn).length ++ (vecs 1 f.alpn)) := by simp [encE]
    rw [e0]
    rw [decide_eq_true ht]
    clear ho e0
    have HT := Lib.hid ht
    clear ht
    conv => arg 2; whnf
    go_wp2_with fail
    refine (bs_add16 16 w (by omega) (by omega) HB.out (by omega)).mono ?_
    rintro e w1 ⟨rfl, hb, hfr⟩
    have HB1 : Hid (BS w1 base c (bs ++ en 2 16)) := Lib.hid hb
    have HM1 := Lib.hid (HM.out.fr hfr (.inr HB.out.isBld))
    have HF1 := Lib.hid hfr
    clear hb hfr
    go_wp2_with fail
    have ht := HT.out
    have ho : (en 2 (vecs 1 f.alpn).length ++ (vecs 1 f.alpn)).length < 65536 := by have := dl13 K ht; omega
    refine (bs_lp2 (out := en 2 (vecs 1 f.alpn).length ++ (vecs 1 f.alpn)) w1 ho HB1.out (by simp only [List.length_append, en_length] at ho ⊢; omega) (enter_of Tryz.func71 (by kernel_rfl) (by kernel_rfl)) (fun q hq hqf => by
      have hM := HM1.out
      exact ec_11 w1 hM hq (fun x hx => (K.r.alpn x hx).2) (by have := dl13 K ht; have h2 := vecs_many (k := 1) (by omega) f.alpn; simp only [List.length_append, en_length] at this; omega) (by have := dl13 K ht; simp only [List.length_append, en_length] at this; omega))).mono ?_
    rintro e w2 ⟨rfl, hb, hfr⟩
    have HB2 : Hid (BS w2 base c (bs ++ en 2 16 ++ en 2 (en 2 (vecs 1 f.alpn).length ++ (vecs 1 f.alpn)).length ++ (en 2 (vecs 1 f.alpn).length ++ (vecs 1 f.alpn)))) := Lib.hid hb
    have HM2 := Lib.hid (HM1.out.fr hfr (.inr HB1.out.isBld))
    have HF2 := Lib.hid (HF1.out.trans hfr)
    clear hb hfr ht
    go_wp2_with fail
    refine ⟨rfl, ⟨rfl, rfl, rfl, rfl, rfl, rfl⟩, ?_, HM2.out, HF2.out⟩
    have h := HB2.out
    simpa only [List.append_assoc, List.append_nil, List.length_nil] using h
  · have ho : onE (0 < f.alpn.length) 16 (en 2 (vecs 1 f.alpn).length ++ (vecs 1 f.alpn)) = [] := if_neg ht
    rw [ho]
    rw [decide_eq_false ht]
    clear ht ho
    conv => arg 2; whnf
    go_wp2_with fail
    exact ⟨rfl, ⟨rfl, rfl, rfl, rfl, rfl, rfl⟩, by simpa [encE] using HB.out, HM.out, Fr.refl _ _ _⟩

theorem dl14 {f : CH} (K : ChK f) (ht : 0 < f.vers13.length) : (en 1 (wnums 2 f.vers13).length ++ (wnums 2 f.vers13)).length ≤ 64000 := by
  have h := pcl14 f
  have h2 : pc14 f ≤ chCost f := by unfold chCost; omega
  have h3 := K.c
  obtain ⟨D, hD⟩ : ∃ D, D = (en 1 (wnums 2 f.vers13).length ++ (wnums 2 f.vers13)) := ⟨_, rfl⟩
  rw [onE, if_pos ht] at h
  rw [← hD] at h ⊢
  simp only [encE, List.flatMap_cons, List.flatMap_nil, List.length_append, en_length, List.length_nil] at h
  omega

theorem cl14 {f : CH} {bs : List UInt8} (K : ChK f) : (bs ++ encE (onE (0 < f.vers13.length) 43 (en 1 (wnums 2 f.vers13).length ++ (wnums 2 f.vers13)))).length ≤ bs.length + 64000 := by
  have h := pcl14 f
  have h2 : pc14 f ≤ chCost f := by unfold chCost; omega
  have h3 := K.c
  rw [List.length_append, h]
  omega

set_option maxRecDepth 100000 in
set_option maxHeartbeats 4000000 in
theorem ct_14 {base c x y m : Nat} {f : CH} {a : Act} {v7 : Value} (w : World) (K : ChK f) (hA : CmSl x y c v7 a) (hM : MsgC w base x m (chS f)) (hY : w.heap[y]? = some (.cells #[.bool false] 4 (0, 0))) :
    Code.wp Tryz.prog (cmReg 55) (CtPost x y c v7 161 (decide (0 < f.vers13.length)) w) a w := by
  obtain ⟨hdf, hs, h2, h3, h6, h7⟩ := hA
  obtain ⟨s, dl⟩ := a
  simp only at hdf hs h2 h3 h6 h7
  subst hdf
  obtain ⟨z, rfl⟩ := arr258 s hs
  have e2 : z 2 = .pointer (some ⟨x, 0, none⟩) := Option.some.inj h2
  have e3 : z 3 = .pointer (some ⟨y, 0, none⟩) := Option.some.inj h3
  have e6 : z 6 = .pointer (some ⟨c, 0, none⟩) := Option.some.inj h6
  have e7 : z 7 = v7 := Option.some.inj h7
  rw [e2, e3, e6, e7]
  have cx := hM.cell
  have cy := cell_head hY
  obtain ⟨vq, q, hvq⟩ := hM.at (i := 19) rfl
  obtain ⟨aq, kq, rfl, _⟩ := RowS.len hvq
  rw [List.length_map] at q
  clear hvq
  clear hs h2 h3 h6 h7 e2 e3 e6 e7 hY
  conv => arg 2; whnf
  by_cases ht : 0 < f.vers13.length
  · have ht2 : (0 : Int) < ((f.vers13.length : Nat) : Int) := by omega
    rw [decide_eq_true ht]
    go_wp2_with fail
    exact ⟨rfl, rfl, ⟨rfl, rfl, rfl, rfl, rfl, rfl⟩, rfl⟩
  · have ht2 : ¬ (0 : Int) < ((f.vers13.length : Nat) : Int) := by omega
    rw [decide_eq_false ht]
    go_wp2_with fail
    exact ⟨rfl, rfl, ⟨rfl, rfl, rfl, rfl, rfl, rfl⟩, rfl⟩

set_option maxRecDepth 100000 in
set_option maxHeartbeats 4000000 in
theorem ce_14 {base c x y m : Nat} {f : CH} {bs : List UInt8} {a : Act} {v7 : Value} (w : World) (K : ChK f) (hA : CmSl x y c v7 a) (hT : a.tmps[161]? = some (.bool (decide (0 < f.vers13.length)))) (hB : BS w base c bs) (hM : MsgC w base x m (chS f)) (hY : w.heap[y]? = some (.cells #[.bool false] 4 (0, 0))) (hl : bs.length ≤ 4294967296) :
    Code.wp Tryz.prog ((cmConds[14]?).getD .skip) (CePost w base x y m c v7 (chS f) (bs ++ encE (onE (0 < f.vers13.length) 43 (en 1 (wnums 2 f.vers13).length ++ (wnums 2 f.vers13))))) a w := by
  obtain ⟨hdf, hs, h2, h3, h6, h7⟩ := hA
  obtain ⟨s, dl⟩ := a
  simp only at hdf hs h2 h3 h6 h7 hT
  subst hdf
  obtain ⟨z, rfl⟩ := arr258 s hs
  have e2 : z 2 = .pointer (some ⟨x, 0, none⟩) := Option.some.inj h2
  have e3 : z 3 = .pointer (some ⟨y, 0, none⟩) := Option.some.inj h3
  have e6 : z 6 = .pointer (some ⟨c, 0, none⟩) := Option.some.inj h6
  have e7 : z 7 = v7 := Option.some.inj h7
  have eT : z 161 = .bool (decide (0 < f.vers13.length)) := Option.some.inj hT
  rw [e2, e3, e6, e7, eT]
  have cy := cell_head hY
  have HB := Lib.hid hB
  have HM := Lib.hid hM
  clear hs h2 h3 h6 h7 hT e2 e3 e6 e7 eT hB hM hY
  by_cases ht : 0 < f.vers13.length
  · have ho : onE (0 < f.vers13.length) 43 (en 1 (wnums 2 f.vers13).length ++ (wnums 2 f.vers13)) = [(43, en 1 (wnums 2 f.vers13).length ++ (wnums 2 f.vers13))] := if_pos ht
    rw [ho]
    have e0 : encE [(43, en 1 (wnums 2 f.vers13).length ++ (wnums 2 f.vers13))] = en 2 43 ++ en 2 (en 1 (wnums 2 f.vers13).length ++ (wnums 2 f.vers13)).length ++ (en 1 (wnums 2 f.vers13).length ++ (wnums 2 f.vers13)) := by simp [encE]
    rw [e0]
    rw [decide_eq_true ht]
    clear ho e0
    have HT := Lib.hid ht
    clear ht
    conv => arg 2; whnf
    go_wp2_with fail
    refine (bs_add16 43 w (by omega) (by omega) HB.out (by omega)).mono ?_
    rintro e w1 ⟨rfl, hb, hfr⟩
    have HB1 : Hid (BS w1 base c (bs ++ en 2 43)) := Lib.hid hb
    have HM1 := Lib.hid (HM.out.fr hfr (.inr HB.out.isBld))
    have HF1 := Lib.hid hfr
    clear hb hfr
    go_wp2_with fail
    have ht := HT.out
    have ho : (en 1 (wnums 2 f.vers13).length ++ (wnums 2 f.vers13)).length < 65536 := by have := dl14 K ht; omega
    refine (bs_lp2 (out := en 1 (wnums 2 f.vers13).length ++ (wnums 2 f.vers13)) w1 ho HB1.out (by simp only [List.length_append, en_length] at ho ⊢; omega) (enter_of Tryz.func74 (by kernel_rfl) (by kernel_rfl)) (fun q hq hqf => by
      have hM := HM1.out
      exact ec_12 w1 hM hq K.r.vers13 (by have := K.r.vers13n; omega) (by rw [wnums_len]; have := K.r.vers13n; omega))).mono ?_
    rintro e w2 ⟨rfl, hb, hfr⟩
    have HB2 : Hid (BS w2 base c (bs ++ en 2 43 ++ en 2 (en 1 (wnums 2 f.vers13).length ++ (wnums 2 f.vers13)).length ++ (en 1 (wnums 2 f.vers13).length ++ (wnums 2 f.vers13)))) := Lib.hid hb
    have HM2 := Lib.hid (HM1.out.fr hfr (.inr HB1.out.isBld))
    have HF2 := Lib.hid (HF1.out.trans hfr)
    clear hb hfr ht
    go_wp2_with fail
    refine ⟨rfl, ⟨rfl, rfl, rfl, rfl, rfl, rfl⟩, ?_, HM2.out, HF2.out⟩
    have h := HB2.out
    simpa only [List.append_assoc, List.append_nil, List.length_nil] using h
  · have ho : onE (0 < f.vers13.length) 43 (en 1 (wnums 2 f.vers13).length ++ (wnums 2 f.vers13)) = [] := if_neg ht
    rw [ho]
    rw [decide_eq_false ht]
    clear ht ho
    conv => arg 2; whnf
    go_wp2_with fail
    exact ⟨rfl, ⟨rfl, rfl, rfl, rfl, rfl, rfl⟩, by simpa [encE] using HB.out, HM.out, Fr.refl _ _ _⟩

theorem dl15 {f : CH} (K : ChK f) (ht : 0 < f.cookie.length) : (en 2 f.cookie.length ++ f.cookie).length ≤ 64000 := by
  have h := pcl15 f
  have h2 : pc15 f ≤ chCost f := by unfold chCost; omega
  have h3 := K.c
  obtain ⟨D, hD⟩ : ∃ D, D = (en 2 f.cookie.length ++ f.cookie) := ⟨_, rfl⟩
  rw [onE, if_pos ht] at h
  rw [← hD] at h ⊢
  simp only [encE, List.flatMap_cons, List.flatMap_nil, List.length_append, en_length, List.length_nil] at h
  omega

theorem cl15 {f : CH} {bs : List UInt8} (K : ChK f) : (bs ++ encE (onE (0 < f.cookie.length) 44 (en 2 f.cookie.length ++ f.cookie))).length ≤ bs.length + 64000 := by
  have h := pcl15 f
  have h2 : pc15 f ≤ chCost f := by unfold chCost; omega
  have h3 := K.c
  rw [List.length_append, h]
  omega

set_option maxRecDepth 100000 in
set_option maxHeartbeats 4000000 in
theorem ct_15 {base c x y m : Nat} {f : CH} {a : Act} {v7 : Value} (w : World) (K : ChK f) (hA : CmSl x y c v7 a) (hM : MsgC w base x m (chS f)) (hY : w.heap[y]? = some (.cells #[.bool false] 4 (0, 0))) :
    Code.wp Tryz.prog (cmReg 60) (CtPost x y c v7 174 (decide (0 < f.cookie.length)) w) a w := by
  obtain ⟨hdf, hs, h2, h3, h6, h7⟩ := hA
  obtain ⟨s, dl⟩ := a
  simp only at hdf hs h2 h3 h6 h7
  subst hdf
  obtain ⟨z, rfl⟩ := arr258 s hs
  have e2 : z 2 = .pointer (some ⟨x, 0, none⟩) := Option.some.inj h2
  have e3 : z 3 = .pointer (some ⟨y, 0, none⟩) := Option.some.inj h3
  have e6 : z 6 = .pointer (some ⟨c, 0, none⟩) := Option.some.inj h6
  have e7 : z 7 = v7 := Option.some.inj h7
  rw [e2, e3, e6, e7]
  have cx := hM.cell
  have cy := cell_head hY
  obtain ⟨vq, q, hvq⟩ := hM.at (i := 20) rfl
  obtain ⟨aq, kq, rfl⟩ := SrcB.len hvq
  clear hvq
  clear hs h2 h3 h6 h7 e2 e3 e6 e7 hY
  conv => arg 2; whnf
  by_cases ht : 0 < f.cookie.length
  · have ht2 : (0 : Int) < ((f.cookie.length : Nat) : Int) := by omega
    rw [decide_eq_true ht]
    go_wp2_with fail
    exact ⟨rfl, rfl, ⟨rfl, rfl, rfl, rfl, rfl, rfl⟩, rfl⟩
  · have ht2 : ¬ (0 : Int) < ((f.cookie.length : Nat) : Int) := by omega
    rw [decide_eq_false ht]
    go_wp2_with fail
    exact ⟨rfl, rfl, ⟨rfl, rfl, rfl, rfl, rfl, rfl⟩, rfl⟩

set_option maxRecDepth 100000 in
set_option maxHeartbeats 4000000 in
theorem ce_15 {base c x y m : Nat} {f : CH} {bs : List UInt8} {a : Act} {v7 : Value} (w : World) (K : ChK f) (hA : CmSl x y c v7 a) (hT : a.tmps[174]? = some (.bool (decide (0 < f.cookie.length)))) (hB : BS w base c bs) (hM : MsgC w base x m (chS f)) (hY : w.heap[y]? = some (.cells #[.bool false] 4 (0, 0))) (hl : bs.length ≤ 4294967296) :
    Code.wp Tryz.prog ((cmConds[15]?).getD .skip) (CePost w base x y m c v7 (chS f) (bs ++ encE (onE (0 < f.cookie.length) 44 (en 2 f.cookie.length ++ f.cookie)))) a w := by
  obtain ⟨hdf, hs, h2, h3, h6, h7⟩ := hA
  obtain ⟨s, dl⟩ := a
  simp only at hdf hs h2 h3 h6 h7 hT
  subst hdf
  obtain ⟨z, rfl⟩ := arr258 s hs
  have e2 : z 2 = .pointer (some ⟨x, 0, none⟩) := Option.some.inj h2
  have e3 : z 3 = .pointer (some ⟨y, 0, none⟩) := Option.some.inj h3
  have e6 : z 6 = .pointer (some ⟨c, 0, none⟩) := Option.some.inj h6
  have e7 : z 7 = v7 := Option.some.inj h7
  have eT : z 174 = .bool (decide (0 < f.cookie.length)) := Option.some.inj hT
  rw [e2, e3, e6, e7, eT]
  have cy := cell_head hY
  have HB := Lib.hid hB
  have HM := Lib.hid hM
  clear hs h2 h3 h6 h7 hT e2 e3 e6 e7 eT hB hM hY
  by_cases ht : 0 < f.cookie.length
  · have ho : onE (0 < f.cookie.length) 44 (en 2 f.cookie.length ++ f.cookie) = [(44, en 2 f.cookie.length ++ f.cookie)] := if_pos ht
    rw [ho]
    have e0 : encE [(44, en 2 f.cookie.length ++ f.cookie)] = en 2 44 ++ en 2 (en 2 f.cookie.length ++ f.cookie).length ++ (en 2 f.cookie.length ++ f.cookie) := by simp [encE]
    rw [e0]
    rw [decide_eq_true ht]
    clear ho e0
    have HT := Lib.hid ht
    clear ht
    conv => arg 2; whnf
    go_wp2_with fail
    refine (bs_add16 44 w (by omega) (by omega) HB.out (by omega)).mono ?_
    rintro e w1 ⟨rfl, hb, hfr⟩
    have HB1 : Hid (BS w1 base c (bs ++ en 2 44)) := Lib.hid hb
    have HM1 := Lib.hid (HM.out.fr hfr (.inr HB.out.isBld))
    have HF1 := Lib.hid hfr
    clear hb hfr
    go_wp2_with fail
    have ht := HT.out
    have ho : (en 2 f.cookie.length ++ f.cookie).length < 65536 := by have := dl15 K ht; omega
    refine (bs_lp2 (out := en 2 f.cookie.length ++ f.cookie) w1 ho HB1.out (by simp only [List.length_append, en_length] at ho ⊢; omega) (enter_of Tryz.func76 (by kernel_rfl) (by kernel_rfl)) (fun q hq hqf => by
      have hM := HM1.out
      exact ec_13 w1 hM hq (by have := dl15 K ht; simp only [List.length_append, en_length] at this; omega))).mono ?_
    rintro e w2 ⟨rfl, hb, hfr⟩
    have HB2 : Hid (BS w2 base c (bs ++ en 2 44 ++ en 2 (en 2 f.cookie.length ++ f.cookie).length ++ (en 2 f.cookie.length ++ f.cookie))) := Lib.hid hb
    have HM2 := Lib.hid (HM1.out.fr hfr (.inr HB1.out.isBld))
    have HF2 := Lib.hid (HF1.out.trans hfr)
    clear hb hfr ht
    go_wp2_with fail
    refine ⟨rfl, ⟨rfl, rfl, rfl, rfl, rfl, rfl⟩, ?_, HM2.out, HF2.out⟩
    have h := HB2.out
    simpa only [List.append_assoc, List.append_nil, List.length_nil] using h
  · have ho : onE (0 < f.cookie.length) 44 (en 2 f.cookie.length ++ f.cookie) = [] := if_neg ht
    rw [ho]
    rw [decide_eq_false ht]
    clear ht ho
    conv => arg 2; whnf
    go_wp2_with fail
    exact ⟨rfl, ⟨rfl, rfl, rfl, rfl, rfl, rfl⟩, by simpa [encE] using HB.out, HM.out, Fr.refl _ _ _⟩

theorem dl16 {f : CH} (K : ChK f) (ht : 0 < f.shares.length) : (en 2 (wshr f.shares).length ++ (wshr f.shares)).length ≤ 64000 := by
  have h := pcl16 f
  have h2 : pc16 f ≤ chCost f := by unfold chCost; omega
  have h3 := K.c
  obtain ⟨D, hD⟩ : ∃ D, D = (en 2 (wshr f.shares).length ++ (wshr f.shares)) := ⟨_, rfl⟩
  rw [onE, if_pos ht] at h
  rw [← hD] at h ⊢
  simp only [encE, List.flatMap_cons, List.flatMap_nil, List.length_append, en_length, List.length_nil] at h
  omega

theorem cl16 {f : CH} {bs : List UInt8} (K : ChK f) : (bs ++ encE (onE (0 < f.shares.length) 51 (en 2 (wshr f.shares).length ++ (wshr f.shares)))).length ≤ bs.length + 64000 := by
  have h := pcl16 f
  have h2 : pc16 f ≤ chCost f := by unfold chCost; omega
  have h3 := K.c
  rw [List.length_append, h]
  omega

set_option maxRecDepth 100000 in
set_option maxHeartbeats 4000000 in
theorem ct_16 {base c x y m : Nat} {f : CH} {a : Act} {v7 : Value} (w : World) (K : ChK f) (hA : CmSl x y c v7 a) (hM : MsgC w base x m (chS f)) (hY : w.heap[y]? = some (.cells #[.bool false] 4 (0, 0))) :
    Code.wp Tryz.prog (cmReg 65) (CtPost x y c v7 187 (decide (0 < f.shares.length)) w) a w := by
  obtain ⟨hdf, hs, h2, h3, h6, h7⟩ := hA
  obtain ⟨s, dl⟩ := a
  simp only at hdf hs h2 h3 h6 h7
  subst hdf
  obtain ⟨z, rfl⟩ := arr258 s hs
  have e2 : z 2 = .pointer (some ⟨x, 0, none⟩) := Option.some.inj h2
  have e3 : z 3 = .pointer (some ⟨y, 0, none⟩) := Option.some.inj h3
  have e6 : z 6 = .pointer (some ⟨c, 0, none⟩) := Option.some.inj h6
  have e7 : z 7 = v7 := Option.some.inj h7
  rw [e2, e3, e6, e7]
  have cx := hM.cell
  have cy := cell_head hY
  obtain ⟨vq, q, hvq⟩ := hM.at (i := 21) rfl
  obtain ⟨aq, kq, rfl⟩ : ∃ a k, vq = .slice a f.shares.length k := by
    rcases hvq with ⟨rfl, h0⟩ | ⟨p, cp, cur, rfl, _⟩
    · exact ⟨none, 0, by rw [h0]; rfl⟩
    · exact ⟨_, cp, rfl⟩
  clear hvq
  clear hs h2 h3 h6 h7 e2 e3 e6 e7 hY
  conv => arg 2; whnf
  by_cases ht : 0 < f.shares.length
  · have ht2 : (0 : Int) < ((f.shares.length : Nat) : Int) := by omega
    rw [decide_eq_true ht]
    go_wp2_with fail
    exact ⟨rfl, rfl, ⟨rfl, rfl, rfl, rfl, rfl, rfl⟩, rfl⟩
  · have ht2 : ¬ (0 : Int) < ((f.shares.length : Nat) : Int) := by omega
    rw [decide_eq_false ht]
    go_wp2_with fail
    exact ⟨rfl, rfl, ⟨rfl, rfl, rfl, rfl, rfl, rfl⟩, rfl⟩

set_option maxRecDepth 100000 in
set_option maxHeartbeats 4000000 in
theorem ce_16 {base c x y m : Nat} {f : CH} {bs : List UInt8} {a : Act} {v7 : Value} (w : World) (K : ChK f) (hA : CmSl x y c v7 a) (hT : a.tmps[187]? = some (.bool (decide (0 < f.shares.length)))) (hB : BS w base c bs) (hM : MsgC w base x m (chS f)) (hY : w.heap[y]? = some (.cells #[.bool false] 4 (0, 0))) (hl : bs.length ≤ 4294967296) :
    Code.wp Tryz.prog ((cmConds[16]?).getD .skip) (CePost w base x y m c v7 (chS f) (bs ++ encE (onE (0 < f.shares.length) 51 (en 2 (wshr f.shares).length ++ (wshr f.shares))))) a w := by
  obtain ⟨hdf, hs, h2, h3, h6, h7⟩ := hA
  obtain ⟨s, dl⟩ := a
  simp only at hdf hs h2 h3 h6 h7 hT
  subst hdf
  obtain ⟨z, rfl⟩ := arr258 s hs
  have e2 : z 2 = .pointer (some ⟨x, 0, none⟩) := Option.some.inj h2
  have e3 : z 3 = .pointer (some ⟨y, 0, none⟩) := Option.some.inj h3
  have e6 : z 6 = .pointer (some ⟨c, 0, none⟩) := Option.some.inj h6
  have e7 : z 7 = v7 := Option.some.inj h7
  have eT : z 187 = .bool (decide (0 < f.shares.length)) := Option.some.inj hT
  rw [e2, e3, e6, e7, eT]
  have cy := cell_head hY
  have HB := Lib.hid hB
  have HM := Lib.hid hM
  clear hs h2 h3 h6 h7 hT e2 e3 e6 e7 eT hB hM hY
  by_cases ht : 0 < f.shares.length
  · have ho : onE (0 < f.shares.length) 51 (en 2 (wshr f.shares).length ++ (wshr f.shares)) = [(51, en 2 (wshr f.shares).length ++ (wshr f.shares))] := if_pos ht
    rw [ho]
    have e0 : encE [(51, en 2 (wshr f.shares).length ++ (wshr f.shares))] = en 2 51 ++ en 2 (en 2 (wshr f.shares).length ++ (wshr f.shares)).length ++ (en 2 (wshr f.shares).length ++ (wshr f.shares)) := by simp [encE]
    rw [e0]
    rw [decide_eq_true ht]
    clear ho e0
    have HT := Lib.hid ht
    clear ht
    conv => arg 2; whnf
    go_wp2_with fail
    refine (bs_add16 51 w (by omega) (by omega) HB.out (by omega)).mono ?_
    rintro e w1 ⟨rfl, hb, hfr⟩
    have HB1 : Hid (BS w1 base c (bs ++ en 2 51)) := Lib.hid hb
    have HM1 := Lib.hid (HM.out.fr hfr (.inr HB.out.isBld))
    have HF1 := Lib.hid hfr
    clear hb hfr
    go_wp2_with fail
    have ht := HT.out
    have ho : (en 2 (wshr f.shares).length ++ (wshr f.shares)).length < 65536 := by have := dl16 K ht; omega
    refine (bs_lp2 (out := en 2 (wshr f.shares).length ++ (wshr f.shares)) w1 ho HB1.out (by simp only [List.length_append, en_length] at ho ⊢; omega) (enter_of Tryz.func78 (by kernel_rfl) (by kernel_rfl)) (fun q hq hqf => by
      have hM := HM1.out
      exact ec_14 w1 hM hq (fun x hx => ⟨(K.r.shares x hx).1, (K.r.shares x hx).2.2⟩) (by have := dl16 K ht; have h2 := wshr_many f.shares; simp only [List.length_append, en_length] at this; omega) (by have := dl16 K ht; simp only [List.length_append, en_length] at this; omega))).mono ?_
    rintro e w2 ⟨rfl, hb, hfr⟩
    have HB2 : Hid (BS w2 base c (bs ++ en 2 51 ++ en 2 (en 2 (wshr f.shares).length ++ (wshr f.shares)).length ++ (en 2 (wshr f.shares).length ++ (wshr f.shares)))) := Lib.hid hb
    have HM2 := Lib.hid (HM1.out.fr hfr (.inr HB1.out.isBld))
    have HF2 := Lib.hid (HF1.out.trans hfr)
    clear hb hfr ht
    go_wp2_with fail
    refine ⟨rfl, ⟨rfl, rfl, rfl, rfl, rfl, rfl⟩, ?_, HM2.out, HF2.out⟩
    have h := HB2.out
    simpa only [List.append_assoc, List.append_nil, List.length_nil] using h
  · have ho : onE (0 < f.shares.length) 51 (en 2 (wshr f.shares).length ++ (wshr f.shares)) = [] := if_neg ht
    rw [ho]
    rw [decide_eq_false ht]
    clear ht ho
    conv => arg 2; whnf
    go_wp2_with fail
    exact ⟨rfl, ⟨rfl, rfl, rfl, rfl, rfl, rfl⟩, by simpa [encE] using HB.out, HM.out, Fr.refl _ _ _⟩

theorem dl17 {f : CH} (K : ChK f) (ht : 0 < f.modes.length) : (en 1 f.modes.length ++ f.modes).length ≤ 64000 := by
  have h := pcl17 f
  have h2 : pc17 f ≤ chCost f := by unfold chCost; omega
  have h3 := K.c
  obtain ⟨D, hD⟩ : ∃ D, D = (en 1 f.modes.length ++ f.modes) := ⟨_, rfl⟩
  rw [onE, if_pos ht] at h
  rw [← hD] at h ⊢
  simp only [encE, List.flatMap_cons, List.flatMap_nil, List.length_append, en_length, List.length_nil] at h
  omega

theorem cl17 {f : CH} {bs : List UInt8} (K : ChK f) : (bs ++ encE (onE (0 < f.modes.length) 45 (en 1 f.modes.length ++ f.modes))).length ≤ bs.length + 64000 := by
  have h := pcl17 f
  have h2 : pc17 f ≤ chCost f := by unfold chCost; omega
  have h3 := K.c
  rw [List.length_append, h]
  omega

set_option maxRecDepth 100000 in
set_option maxHeartbeats 4000000 in
theorem ct_17 {base c x y m : Nat} {f : CH} {a : Act} {v7 : Value} (w : World) (K : ChK f) (hA : CmSl x y c v7 a) (hM : MsgC w base x m (chS f)) (hY : w.heap[y]? = some (.cells #[.bool false] 4 (0, 0))) :
    Code.wp Tryz.prog (cmReg 70) (CtPost x y c v7 200 (decide (0 < f.modes.length)) w) a w := by
  obtain ⟨hdf, hs, h2, h3, h6, h7⟩ := hA
  obtain ⟨s, dl⟩ := a
  simp only at hdf hs h2 h3 h6 h7
  subst hdf
  obtain ⟨z, rfl⟩ := arr258 s hs
  have e2 : z 2 = .pointer (some ⟨x, 0, none⟩) := Option.some.inj h2
  have e3 : z 3 = .pointer (some ⟨y, 0, none⟩) := Option.some.inj h3
  have e6 : z 6 = .pointer (some ⟨c, 0, none⟩) := Option.some.inj h6
  have e7 : z 7 = v7 := Option.some.inj h7
  rw [e2, e3, e6, e7]
  have cx := hM.cell
  have cy := cell_head hY
  obtain ⟨vq, q, hvq⟩ := hM.at (i := 23) rfl
  obtain ⟨aq, kq, rfl⟩ := SrcB.len hvq
  clear hvq
  clear hs h2 h3 h6 h7 e2 e3 e6 e7 hY
  conv => arg 2; whnf
  by_cases ht : 0 < f.modes.length
  · have ht2 : (0 : Int) < ((f.modes.length : Nat) : Int) := by omega
    rw [decide_eq_true ht]
    go_wp2_with fail
    exact ⟨rfl, rfl, ⟨rfl, rfl, rfl, rfl, rfl, rfl⟩, rfl⟩
  · have ht2 : ¬ (0 : Int) < ((f.modes.length : Nat) : Int) := by omega
    rw [decide_eq_false ht]
    go_wp2_with fail
    exact ⟨rfl, rfl, ⟨rfl, rfl, rfl, rfl, rfl, rfl⟩, rfl⟩

set_option maxRecDepth 100000 in
set_option maxHeartbeats 4000000 in
theorem ce_17 {base c x y m : Nat} {f : CH} {bs : List UInt8} {a : Act} {v7 : Value} (w : World) (K : ChK f) (hA : CmSl x y c v7 a) (hT : a.tmps[200]? = some (.bool (decide (0 < f.modes.length)))) (hB : BS w base c bs) (hM : MsgC w base x m (chS f)) (hY : w.heap[y]? = some (.cells #[.bool false] 4 (0, 0))) (hl : bs.length ≤ 4294967296) :
    Code.wp Tryz.prog ((cmConds[17]?).getD .skip) (CePost w base x y m c v7 (chS f) (bs ++ encE (onE (0 < f.modes.length) 45 (en 1 f.modes.length ++ f.modes)))) a w := by
  obtain ⟨hdf, hs, h2, h3, h6, h7⟩ := hA
  obtain ⟨s, dl⟩ := a
  simp only at hdf hs h2 h3 h6 h7 hT
  subst hdf
  obtain ⟨z, rfl⟩ := arr258 s hs
  have e2 : z 2 = .pointer (some ⟨x, 0, none⟩) := Option.some.inj h2
  have e3 : z 3 = .pointer (some ⟨y, 0, none⟩) := Option.some.inj h3
  have e6 : z 6 = .pointer (some ⟨c, 0, none⟩) := Option.some.inj h6
  have e7 : z 7 = v7 := Option.some.inj h7
  have eT : z 200 = .bool (decide (0 < f.modes.length)) := Option.some.inj hT
  rw [e2, e3, e6, e7, eT]
  have cy := cell_head hY
  have HB := Lib.hid hB
  have HM := Lib.hid hM
  clear hs h2 h3 h6 h7 hT e2 e3 e6 e7 eT hB hM hY
  by_cases ht : 0 < f.modes.length
  · have ho : onE (0 < f.modes.length) 45 (en 1 f.modes.length ++ f.modes) = [(45, en 1 f.modes.length ++ f.modes)] := if_pos ht
    rw [ho]
    have e0 : encE [(45, en 1 f.modes.length ++ f.modes)] = en 2 45 ++ en 2 (en 1 f.modes.length ++ f.modes).length ++ (en 1 f.modes.length ++ f.modes) := by simp [encE]
    rw [e0]
    rw [decide_eq_true ht]
    clear ho e0
    have HT := Lib.hid ht
    clear ht
    conv => arg 2; whnf
    go_wp2_with fail
    refine (bs_add16 45 w (by omega) (by omega) HB.out (by omega)).mono ?_
    rintro e w1 ⟨rfl, hb, hfr⟩
    have HB1 : Hid (BS w1 base c (bs ++ en 2 45)) := Lib.hid hb
    have HM1 := Lib.hid (HM.out.fr hfr (.inr HB.out.isBld))
    have HF1 := Lib.hid hfr
    clear hb hfr
    go_wp2_with fail
    have ht := HT.out
    have ho : (en 1 f.modes.length ++ f.modes).length < 65536 := by have := dl17 K ht; omega
    refine (bs_lp2 (out := en 1 f.modes.length ++ f.modes) w1 ho HB1.out (by simp only [List.length_append, en_length] at ho ⊢; omega) (enter_of Tryz.func81 (by kernel_rfl) (by kernel_rfl)) (fun q hq hqf => by
      have hM := HM1.out
      exact ec_15 w1 hM hq K.r.modes)).mono ?_
    rintro e w2 ⟨rfl, hb, hfr⟩
    have HB2 : Hid (BS w2 base c (bs ++ en 2 45 ++ en 2 (en 1 f.modes.length ++ f.modes).length ++ (en 1 f.modes.length ++ f.modes))) := Lib.hid hb
    have HM2 := Lib.hid (HM1.out.fr hfr (.inr HB1.out.isBld))
    have HF2 := Lib.hid (HF1.out.trans hfr)
    clear hb hfr ht
    go_wp2_with fail
    refine ⟨rfl, ⟨rfl, rfl, rfl, rfl, rfl, rfl⟩, ?_, HM2.out, HF2.out⟩
    have h := HB2.out
    simpa only [List.append_assoc, List.append_nil, List.length_nil] using h
  · have ho : onE (0 < f.modes.length) 45 (en 1 f.modes.length ++ f.modes) = [] := if_neg ht
    rw [ho]
    rw [decide_eq_false ht]
    clear ht ho
    conv => arg 2; whnf
    go_wp2_with fail
    exact ⟨rfl, ⟨rfl, rfl, rfl, rfl, rfl, rfl⟩, by simpa [encE] using HB.out, HM.out, Fr.refl _ _ _⟩

theorem dl18 {f : CH} (K : ChK f) (ht : 0 < f.psks.length) : (en 2 (widn f.psks).length ++ (widn f.psks) ++ (en 2 (vecs 1 f.binders).length ++ (vecs 1 f.binders))).length ≤ 64000 := by
  have h := pcl18 f
  have h2 : pc18 f ≤ chCost f := by unfold chCost; omega
  have h3 := K.c
  obtain ⟨D, hD⟩ : ∃ D, D = (en 2 (widn f.psks).length ++ (widn f.psks) ++ (en 2 (vecs 1 f.binders).length ++ (vecs 1 f.binders))) := ⟨_, rfl⟩
  rw [onE, if_pos ht] at h
  rw [← hD] at h ⊢
  simp only [encE, List.flatMap_cons, List.flatMap_nil, List.length_append, en_length, List.length_nil] at h
  omega

theorem cl18 {f : CH} {bs : List UInt8} (K : ChK f) : (bs ++ encE (onE (0 < f.psks.length) 41 (en 2 (widn f.psks).length ++ (widn f.psks) ++ (en 2 (vecs 1 f.binders).length ++ (vecs 1 f.binders))))).length ≤ bs.length + 64000 := by
  have h := pcl18 f
  have h2 : pc18 f ≤ chCost f := by unfold chCost; omega
  have h3 := K.c
  rw [List.length_append, h]
  omega

set_option maxRecDepth 100000 in
set_option maxHeartbeats 4000000 in
theorem ct_18 {base c x y m : Nat} {f : CH} {a : Act} {v7 : Value} (w : World) (K : ChK f) (hA : CmSl x y c v7 a) (hM : MsgC w base x m (chS f)) (hY : w.heap[y]? = some (.cells #[.bool false] 4 (0, 0))) :
    Code.wp Tryz.prog (cmReg 78) (CtPost x y c v7 241 (decide (0 < f.psks.length)) w) a w := by
  obtain ⟨hdf, hs, h2, h3, h6, h7⟩ := hA
  obtain ⟨s, dl⟩ := a
  simp only at hdf hs h2 h3 h6 h7
  subst hdf
  obtain ⟨z, rfl⟩ := arr258 s hs
  have e2 : z 2 = .pointer (some ⟨x, 0, none⟩) := Option.some.inj h2
  have e3 : z 3 = .pointer (some ⟨y, 0, none⟩) := Option.some.inj h3
  have e6 : z 6 = .pointer (some ⟨c, 0, none⟩) := Option.some.inj h6
  have e7 : z 7 = v7 := Option.some.inj h7
  rw [e2, e3, e6, e7]
  have cx := hM.cell
  have cy := cell_head hY
  obtain ⟨vq, q, hvq⟩ := hM.at (i := 24) rfl
  obtain ⟨aq, kq, rfl⟩ : ∃ a k, vq = .slice a f.psks.length k := by
    rcases hvq with ⟨rfl, h0⟩ | ⟨p, cp, cur, rfl, _⟩
    · exact ⟨none, 0, by rw [h0]; rfl⟩
    · exact ⟨_, cp, rfl⟩
  clear hvq
  clear hs h2 h3 h6 h7 e2 e3 e6 e7 hY
  conv => arg 2; whnf
  by_cases ht : 0 < f.psks.length
  · have ht2 : (0 : Int) < ((f.psks.length : Nat) : Int) := by omega
    rw [decide_eq_true ht]
    have hech : f.ech.length = 0 := by
      rcases K.g with h | h
      · rw [h]; rfl
      · rw [h] at ht; simp at ht
    obtain ⟨ve, qe, hve⟩ := hM.at (i := 27) rfl
    obtain ⟨ae, ke, rfl⟩ := SrcB.len hve
    rw [hech] at qe
    clear hve hech
    go_wp2_with fail
    exact ⟨rfl, rfl, ⟨rfl, rfl, rfl, rfl, rfl, rfl⟩, rfl⟩
  · have ht2 : ¬ (0 : Int) < ((f.psks.length : Nat) : Int) := by omega
    rw [decide_eq_false ht]
    go_wp2_with fail
    exact ⟨rfl, rfl, ⟨rfl, rfl, rfl, rfl, rfl, rfl⟩, rfl⟩

set_option maxRecDepth 100000 in
set_option maxHeartbeats 4000000 in
theorem ce_18 {base c x y m : Nat} {f : CH} {bs : List UInt8} {a : Act} {v7 : Value} (w : World) (K : ChK f) (hA : CmSl x y c v7 a) (hT : a.tmps[241]? = some (.bool (decide (0 < f.psks.length)))) (hB : BS w base c bs) (hM : MsgC w base x m (chS f)) (hY : w.heap[y]? = some (.cells #[.bool false] 4 (0, 0))) (hl : bs.length ≤ 4294967296) :
    Code.wp Tryz.prog ((cmConds[19]?).getD .skip) (CePost w base x y m c v7 (chS f) (bs ++ encE (onE (0 < f.psks.length) 41 (en 2 (widn f.psks).length ++ (widn f.psks) ++ (en 2 (vecs 1 f.binders).length ++ (vecs 1 f.binders)))))) a w := by
  obtain ⟨hdf, hs, h2, h3, h6, h7⟩ := hA
  obtain ⟨s, dl⟩ := a
  simp only at hdf hs h2 h3 h6 h7 hT
  subst hdf
  obtain ⟨z, rfl⟩ := arr258 s hs
  have e2 : z 2 = .pointer (some ⟨x, 0, none⟩) := Option.some.inj h2
  have e3 : z 3 = .pointer (some ⟨y, 0, none⟩) := Option.some.inj h3
  have e6 : z 6 = .pointer (some ⟨c, 0, none⟩) := Option.some.inj h6
  have e7 : z 7 = v7 := Option.some.inj h7
  have eT : z 241 = .bool (decide (0 < f.psks.length)) := Option.some.inj hT
  rw [e2, e3, e6, e7, eT]
  have cy := cell_head hY
  have HB := Lib.hid hB
  have HM := Lib.hid hM
  clear hs h2 h3 h6 h7 hT e2 e3 e6 e7 eT hB hM hY
  by_cases ht : 0 < f.psks.length
  · have ho : onE (0 < f.psks.length) 41 (en 2 (widn f.psks).length ++ (widn f.psks) ++ (en 2 (vecs 1 f.binders).length ++ (vecs 1 f.binders))) = [(41, en 2 (widn f.psks).length ++ (widn f.psks) ++ (en 2 (vecs 1 f.binders).length ++ (vecs 1 f.binders)))] := if_pos ht
    rw [ho]
    have e0 : encE [(41, en 2 (widn f.psks).length ++ (widn f.psks) ++ (en 2 (vecs 1 f.binders).length ++ (vecs 1 f.binders)))] = en 2 41 ++ en 2 (en 2 (widn f.psks).length ++ (widn f.psks) ++ (en 2 (vecs 1 f.binders).length ++ (vecs 1 f.binders))).length ++ (en 2 (widn f.psks).length ++ (widn f.psks) ++ (en 2 (vecs 1 f.binders).length ++ (vecs 1 f.binders))) := by simp [encE]
    rw [e0]
    rw [decide_eq_true ht]
    clear ho e0
    have HT := Lib.hid ht
    clear ht
    conv => arg 2; whnf
    go_wp2_with fail
    refine (bs_add16 41 w (by omega) (by omega) HB.out (by omega)).mono ?_
    rintro e w1 ⟨rfl, hb, hfr⟩
    have HB1 : Hid (BS w1 base c (bs ++ en 2 41)) := Lib.hid hb
    have HM1 := Lib.hid (HM.out.fr hfr (.inr HB.out.isBld))
    have HF1 := Lib.hid hfr
    clear hb hfr
    go_wp2_with fail
    have ht := HT.out
    have ho : (en 2 (widn f.psks).length ++ (widn f.psks) ++ (en 2 (vecs 1 f.binders).length ++ (vecs 1 f.binders))).length < 65536 := by have := dl18 K ht; omega
    refine (bs_lp2 (out := en 2 (widn f.psks).length ++ (widn f.psks) ++ (en 2 (vecs 1 f.binders).length ++ (vecs 1 f.binders))) w1 ho HB1.out (by simp only [List.length_append, en_length] at ho ⊢; omega) (enter_of Tryz.func86 (by kernel_rfl) (by kernel_rfl)) (fun q hq hqf => by
      have hM := HM1.out
      exact ec_17 w1 hM hq (fun x hx => (K.r.psks x hx).2) (by have := dl18 K ht; have h2 := widn_many (L := f.psks); simp only [List.length_append, en_length] at this; omega) (fun x hx => (K.r.binders x hx).2) (by have := dl18 K ht; have h2 := vecs_many (k := 1) (by omega) f.binders; simp only [List.length_append, en_length] at this; omega) (by have := dl18 K ht; simp only [List.length_append, en_length] at this; omega) (by have := dl18 K ht; simp only [List.length_append, en_length] at this; omega))).mono ?_
    rintro e w2 ⟨rfl, hb, hfr⟩
    have HB2 : Hid (BS w2 base c (bs ++ en 2 41 ++ en 2 (en 2 (widn f.psks).length ++ (widn f.psks) ++ (en 2 (vecs 1 f.binders).length ++ (vecs 1 f.binders))).length ++ (en 2 (widn f.psks).length ++ (widn f.psks) ++ (en 2 (vecs 1 f.binders).length ++ (vecs 1 f.binders))))) := Lib.hid hb
    have HM2 := Lib.hid (HM1.out.fr hfr (.inr HB1.out.isBld))
    have HF2 := Lib.hid (HF1.out.trans hfr)
    clear hb hfr ht
    go_wp2_with fail
    refine ⟨rfl, ⟨rfl, rfl, rfl, rfl, rfl, rfl⟩, ?_, HM2.out, HF2.out⟩
    have h := HB2.out
    simpa only [List.append_assoc, List.append_nil, List.length_nil] using h
  · have ho : onE (0 < f.psks.length) 41 (en 2 (widn f.psks).length ++ (widn f.psks) ++ (en 2 (vecs 1 f.binders).length ++ (vecs 1 f.binders))) = [] := if_neg ht
    rw [ho]
    rw [decide_eq_false ht]
    clear ht ho
    conv => arg 2; whnf
    go_wp2_with fail
    exact ⟨rfl, ⟨rfl, rfl, rfl, rfl, rfl, rfl⟩, by simpa [encE] using HB.out, HM.out, Fr.refl _ _ _⟩

set_option maxRecDepth 100000 in
set_option maxHeartbeats 4000000 in
/-- No extension was left to the outer message. -/
theorem ct_x {c x y b7 : Nat} {a : Act} (w : World) (hA : CmSl x y c (.pointer (some ⟨b7, 0, none⟩)) a) (h7' : w.heap[b7]? = some (.cells #[.slice none 0 0] 24 (0, 0))) (hY : w.heap[y]? = some (.cells #[.bool false] 4 (0, 0))) :
    Code.wp Tryz.prog (cmReg 75) (CtPost x y c (.pointer (some ⟨b7, 0, none⟩)) 213 false w) a w := by
  obtain ⟨hdf, hs, h2, h3, h6, h7⟩ := hA
  obtain ⟨s, dl⟩ := a
  simp only at hdf hs h2 h3 h6 h7
  subst hdf
  obtain ⟨z, rfl⟩ := arr258 s hs
  have e2 : z 2 = .pointer (some ⟨x, 0, none⟩) := Option.some.inj h2
  have e3 : z 3 = .pointer (some ⟨y, 0, none⟩) := Option.some.inj h3
  have e6 : z 6 = .pointer (some ⟨c, 0, none⟩) := Option.some.inj h6
  have e7 : z 7 = (.pointer (some ⟨b7, 0, none⟩)) := Option.some.inj h7
  rw [e2, e3, e6, e7]
  have c7 := cell_head h7'
  have cy := cell_head hY
  clear hs h2 h3 h6 h7 e2 e3 e6 e7 hY h7'
  conv => arg 2; whnf
  go_wp2_with fail
  exact ⟨rfl, rfl, ⟨rfl, rfl, rfl, rfl, rfl, rfl⟩, rfl⟩

set_option maxRecDepth 100000 in
set_option maxHeartbeats 4000000 in
theorem ce_x {c x y : Nat} {a : Act} {v7 : Value} (w : World) (hA : CmSl x y c v7 a) (hT : a.tmps[213]? = some (.bool false)) :
    Code.wp Tryz.prog ((cmConds[18]?).getD .skip) (CnPost x y c v7 w) a w := by
  obtain ⟨hdf, hs, h2, h3, h6, h7⟩ := hA
  obtain ⟨s, dl⟩ := a
  simp only at hdf hs h2 h3 h6 h7 hT
  subst hdf
  obtain ⟨z, rfl⟩ := arr258 s hs
  have e2 : z 2 = .pointer (some ⟨x, 0, none⟩) := Option.some.inj h2
  have e3 : z 3 = .pointer (some ⟨y, 0, none⟩) := Option.some.inj h3
  have e6 : z 6 = .pointer (some ⟨c, 0, none⟩) := Option.some.inj h6
  have e7 : z 7 = v7 := Option.some.inj h7
  have eT : z 213 = .bool false := Option.some.inj hT
  rw [e2, e3, e6, e7, eT]
  clear hs h2 h3 h6 h7 hT e2 e3 e6 e7 eT
  conv => arg 2; whnf
  go_wp2_with fail
  exact ⟨rfl, rfl, ⟨rfl, rfl, rfl, rfl, rfl, rfl⟩⟩

end Go.Proofs.YtopcljikkdlffaaGreat
