/- UnmarshalClientHello of package tls: its two loops, a round each. A rule for a long statement whose order of evaluation Go leaves open, with a check that is cheap: each of the first operations lays its own slot, the slots rise, and what it reads it waits for. The reference reads one extension of a ClientHello: cases. The reference reads the extension with a server's name. The reference reads key shares and pre-shared keys. The reference reads an extension of a ClientHello. The plain law of one extension of a ClientHello: what the reference makes of it, package tls makes of it; what the reference finds broken or out of range, package tls refuses. No program and no memory stand here. The plain law of the extensions of a ClientHello, one behind the other. No program and no memory stand here. The plain law of a whole ClientHello: what the reference reads, package tls reads; what it finds broken, out of range or twice, package tls refuses. No program and no memory stand here. The plain law of a whole ClientHello: what the reference reads, package tls reads; what it finds broken, out of range or twice, package tls refuses. No program and no memory stand here. The reference reads a ClientHello: what is found, and what its fields show. No statement of the seat is proved here. -/
import Derived.Test.YtopcljikkdlffaaGreatX26
import Derived.Test.YtopcljikkdlffaaGreatX01
import Derived.Test.YtopcljikkdlffaaGreatX09
import Derived.Test.YtopcljikkdlffaaGreatX08
import Derived.Test.YtopcljikkdlffaaGreatX07
import Derived.Deep.DeepCutAuto
namespace Go.Proofs.YtopcljikkdlffaaGreat
open Go.RowKit

/-- The cells of a ClientHello of package tls; G, D, L, A: what the two loops lay. -/
def unF (C : Array Value) (g : Nat) (v : Nat → Value) (G : List Nat) (D L : List (List UInt8)) (A : List Nat) : List FD :=
  [.val (v 0), .val (v 1), .val (v 2), .val (v 3), .val (v 4), .val (v 5), .val (v 6), .val (v 7), .val (v 8), .val (v 9), .val (v 10), .val (v 11), .val (v 12), .val (v 13), .val (v 14), .val (v 15), .val (v 16), .val (v 17), .val (v 18), .val (v 19), .own 23 1 G.length (ShowU G), .own 22 1 D.length (ShowL C g D), .val (v 22), .val (v 23), .own 22 1 L.length (ShowL C g L), .own 57 1 A.length (ShowU4 A), .val (v 26), .val (v 27), .val (v 28), .val (v 29), .val (v 30)]

noncomputable def unBody1 : Code := (((Tryz.f8.body.bind (pblk 0)).bind ploop).getD .skip)
noncomputable def unBody2 : Code := (((Tryz.f8.body.bind (pblk 2)).bind ploop).getD .skip)

def unIx (k : Nat) (a : Act) : Nat := (intOf (a.tmps.getD k undef)).toNat

/-- Slots that stand while the loops go. -/
def UnSl (r0 cB : Nat) (a : Act) : Prop := a.defers = [] ∧ a.tmps.size = 175 ∧ a.tmps[2]? = some (.pointer (some ⟨r0, 0, none⟩)) ∧ a.tmps[4]? = some (.pointer (some ⟨r0 + 1, 0, none⟩)) ∧ a.tmps[5]? = some (.pointer (some ⟨cB, 0, none⟩))

/-- What stands ahead of a round of loop 1. -/
def UnI1 (W w3 : World) (C : Array Value) (g r0 cB : Nat) (f : CH) (v : Nat → Value) (aS : Option Addr) (cS : Nat) (a : Act) (w : World) : Prop :=
  ∃ j : Nat, j ≤ f.shares.length ∧ UnSl r0 cB a ∧ (a.tmps[129]? = some (.slice aS f.shares.length cS) ∧ a.tmps[130]? = some (.int .i64 (f.shares.length : Nat)) ∧ a.tmps[131]? = some (.int .i64 (j : Nat))) ∧ (∀ i, w.cell? ⟨r0 + 1, i, none⟩ = w3.cell? ⟨r0 + 1, i, none⟩) ∧ Bn W C g (r0 + 1) [(r0 + 1, chF C g f), (cB, (unF C g v ((f.shares.take j).map (·.1)) ((f.shares.take j).map (·.2)) [] []))] none w

set_option maxRecDepth 100000 in
set_option maxHeartbeats 8000000 in
theorem un_round1 {W w3 w : World} {C : Array Value} {g r0 cB : Nat} {f : CH} {v : Nat → Value} {aS : Option Addr} {cS : Nat} {Q0 : Exit → Act → World → Prop} {a : Act} (hlen : f.shares.length ≤ 4294967296) (hcell : w3.cell? ⟨r0 + 1, 21, none⟩ = some (.slice aS f.shares.length cS))
    (hexit : ∀ a' w', UnSl r0 cB a' → (∀ i, w'.cell? ⟨r0 + 1, i, none⟩ = w3.cell? ⟨r0 + 1, i, none⟩) → Bn W C g (r0 + 1) [(r0 + 1, chF C g f), (cB, (unF C g v ((f.shares.take f.shares.length).map (·.1)) ((f.shares.take f.shares.length).map (·.2)) [] []))] none w' → Q0 (.exit 0) a' w')
    (hI : UnI1 W w3 C g r0 cB f v aS cS a w) :
    Code.wp Tryz.prog unBody1 (Exit.then (fun a' w'' => UnI1 W w3 C g r0 cB f v aS cS a' w'' ∧ f.shares.length - unIx 131 a' < f.shares.length - unIx 131 a) Q0) a w := by
  obtain ⟨j, hj, ⟨hdf, hsz, h2, h4, h5⟩, ⟨h129, h130, h131⟩, hm, hb⟩ := hI
  obtain ⟨s, dl⟩ := a
  simp only at hdf hsz h2 h4 h5 h129 h130 h131
  subst hdf
  obtain ⟨z, rfl⟩ := arr175 s hsz
  have e2 : z 2 = .pointer (some ⟨r0, 0, none⟩) := Option.some.inj h2
  have e4 : z 4 = .pointer (some ⟨r0 + 1, 0, none⟩) := Option.some.inj h4
  have e5 : z 5 = .pointer (some ⟨cB, 0, none⟩) := Option.some.inj h5
  have e129 : z 129 = .slice aS f.shares.length cS := Option.some.inj h129
  have e130 : z 130 = .int .i64 (f.shares.length : Nat) := Option.some.inj h130
  have e131 : z 131 = .int .i64 (j : Nat) := Option.some.inj h131
  rw [e2, e4, e5, e129, e130, e131]
  clear hsz h2 h4 h5 h129 h130 h131 e2 e4 e5 e129 e130 e131
  have HEX := Lib.hid hexit
  have HM := Lib.hid hm
  have HCELL := Lib.hid hcell
  have HB := Lib.hid hb
  clear hexit hm hb hcell
  conv => arg 2; whnf
  by_cases hjn : j < f.shares.length
  · have hjn2 : ((j : Nat) : Int) < ((f.shares.length : Nat) : Int) := by omega
    obtain ⟨G, hG⟩ : ∃ G, G = (f.shares.take j).map (·.1) := ⟨_, rfl⟩
    obtain ⟨D, hD⟩ : ∃ D, D = (f.shares.take j).map (·.2) := ⟨_, rfl⟩
    have hb := HB.out
    rw [← hG, ← hD] at hb
    have hGl : G.length ≤ 4294967296 := by rw [hG]; simp; omega
    have hDl : D.length ≤ 4294967296 := by rw [hD]; simp; omega
    obtain ⟨vk, usk, hvk, hok, hRk⟩ := hb.own (b := 0) (i := 21) rfl rfl
    rw [(HM.out 21).trans HCELL.out] at hvk
    cases hvk
    obtain ⟨pS, haS⟩ : ∃ p, aS = some ⟨p, 0, none⟩ := by
      rcases hok.2 with ⟨_, h⟩ | ⟨p, cap, cur, e, _⟩
      · omega
      · simp only [Value.slice.injEq] at e
        exact ⟨p, e.1⟩
    subst haS
    obtain ⟨x, hx⟩ : ∃ x, x = f.shares[j] := ⟨_, rfl⟩
    obtain ⟨hx1, u, hx2, hx3⟩ := hRk j x (by rw [hx]; exact List.getElem?_eq_getElem hjn)
    have q0 : w.cell? ⟨pS, j * 2, none⟩ = some (.int .u16 (x.1 : Nat)) := by rw [hok.cellAt (j * 2) (by omega), Nat.mul_comm j 2]; exact hx1
    have q1 : w.cell? ⟨pS, j * 2 + 1, none⟩ = some (u) := by rw [hok.cellAt (j * 2 + 1) (by omega), Nat.mul_comm j 2]; exact hx2
    obtain ⟨ax, cx, rfl, _, _⟩ := hx3.len
    have hpl : pS < w.heap.size := World.block_lt_of_cell? w _ q0
    have HB3 := Lib.hid hb
    have HX3 := Lib.hid hx3
    have HG2 : Hid (G ++ [x.1] = (f.shares.take (j + 1)).map (·.1)) := Lib.hid (by rw [List.take_succ_eq_append_getElem hjn, List.map_append, hG, hx]; rfl)
    have HD2 : Hid (D ++ [x.2] = (f.shares.take (j + 1)).map (·.2)) := Lib.hid (by rw [List.take_succ_eq_append_getElem hjn, List.map_append, hD, hx]; rfl)
    obtain ⟨xg, xd⟩ := x
    clear hb hx3 hG hD hx hx1 hx2 hRk hok
    simp only at q0 q1 HX3 HG2 HD2
    go_upto_region 8 with fail
    have hbk := HB3.out.add #[.int .u16 (xg : Nat), .slice ax xd.length cx] 56 [.val (.int .u16 (xg : Nat)), .val (.slice ax xd.length cx)] rfl (fun i fd hi => by
      match i, hi with
      | 0, hi => cases hi; exact ⟨rfl, _, rfl, rfl⟩
      | 1, hi => cases hi; exact ⟨rfl, _, rfl, rfl⟩)
    have HMK : Hid (∀ i, (w.alloc (.cells #[.int .u16 (xg : Nat), .slice ax xd.length cx] 56)).cell? ⟨r0 + 1, i, none⟩ = w3.cell? ⟨r0 + 1, i, none⟩) := Lib.hid fun i => (World.cell?_alloc_lt w _ _ (HB3.out.lt (b := 0) rfl)).trans (HM.out i)
    obtain ⟨kB, hkB⟩ : ∃ x, x = w.heap.size := ⟨_, rfl⟩
    obtain ⟨wk, hwk⟩ : ∃ x, x = w.alloc (.cells #[.int .u16 (xg : Nat), .slice ax xd.length cx] 56) := ⟨_, rfl⟩
    rw [← hkB] at hbk ⊢
    rw [← hwk] at hbk HMK ⊢
    have HBK : Hid (Bn W C g (r0 + 1) [(r0 + 1, chF C g f), (cB, (unF C g v G D [] [])), (kB, [.val (.int .u16 (xg : Nat)), .val (.slice ax xd.length cx)])] none wk) := Lib.hid hbk
    clear hbk hkB hwk q0 q1
    refine Code.wp_mono (Q := unReg1Post W C g (r0 + 1) cB kB (chF C g f) _ [.val (.int .u16 (xg : Nat)), .val (.slice ax xd.length cx)] wk _) ?_ (unReg1_ok HX3.out rfl rfl rfl rfl rfl (by assumption) (by assumption) HBK.out)
    rintro e a' w' ⟨rfl, hdf, hsz, ⟨h2, h4, h5, h129, h130, h131⟩, hb, hm'⟩
    obtain ⟨s, dl⟩ := a'
    simp only at hdf hsz h2 h4 h5 h129 h130 h131
    subst hdf
    obtain ⟨y, rfl⟩ := arr175 s hsz
    have e2 : y 2 = .pointer (some ⟨r0, 0, none⟩) := Option.some.inj h2
    have e4 : y 4 = .pointer (some ⟨r0 + 1, 0, none⟩) := Option.some.inj h4
    have e5 : y 5 = .pointer (some ⟨cB, 0, none⟩) := Option.some.inj h5
    have e129 : y 129 = .slice (some ⟨pS, 0, none⟩) f.shares.length cS := Option.some.inj h129
    have e130 : y 130 = .int .i64 (f.shares.length : Nat) := Option.some.inj h130
    have e131 : y 131 = .int .i64 (j : Nat) := Option.some.inj h131
    rw [e2, e4, e5, e129, e130, e131]
    clear hsz h2 h4 h5 h129 h130 h131 e2 e4 e5 e129 e130 e131
    have HB4 := Lib.hid (hb.take 2)
    have HM4 := Lib.hid (fun i => (hm' i).trans (HMK.out i))
    clear hb hm'
    go_wp2_with fail
    refine ⟨⟨j + 1, by omega, ⟨rfl, rfl, rfl, rfl, rfl⟩, ⟨rfl, rfl, by simp⟩, HM4.out, ?_⟩, ?_⟩
    · have h := HB4.out
      rw [show G.length + 1 = (G ++ [xg]).length by simp, show D.length + 1 = (D ++ [xd]).length by simp] at h
      rw [← HG2.out, ← HD2.out]; exact h
    · simp [unIx, intOf]; omega
  · obtain rfl : j = f.shares.length := by omega
    have hjn2 : ¬ ((f.shares.length : Nat) : Int) < ((f.shares.length : Nat) : Int) := by omega
    go_wp2_with fail
    exact HEX.out _ _ ⟨rfl, rfl, rfl, rfl, rfl⟩ HM.out HB.out

/-- What stands ahead of a round of loop 2. -/
def UnI2 (W w3 : World) (C : Array Value) (g r0 cB : Nat) (f : CH) (v : Nat → Value) (aS : Option Addr) (cS : Nat) (a : Act) (w : World) : Prop :=
  ∃ j : Nat, j ≤ f.psks.length ∧ UnSl r0 cB a ∧ (a.tmps[153]? = some (.slice aS f.psks.length cS) ∧ a.tmps[154]? = some (.int .i64 (f.psks.length : Nat)) ∧ a.tmps[155]? = some (.int .i64 (j : Nat))) ∧ (∀ i, w.cell? ⟨r0 + 1, i, none⟩ = w3.cell? ⟨r0 + 1, i, none⟩) ∧ Bn W C g (r0 + 1) [(r0 + 1, chF C g f), (cB, (unF C g v (f.shares.map (·.1)) (f.shares.map (·.2)) ((f.psks.take j).map (·.1)) ((f.psks.take j).map (·.2))))] none w

set_option maxRecDepth 100000 in
set_option maxHeartbeats 8000000 in
theorem un_round2 {W w3 w : World} {C : Array Value} {g r0 cB : Nat} {f : CH} {v : Nat → Value} {aS : Option Addr} {cS : Nat} {Q0 : Exit → Act → World → Prop} {a : Act} (hlen : f.psks.length ≤ 4294967296) (hcell : w3.cell? ⟨r0 + 1, 24, none⟩ = some (.slice aS f.psks.length cS))
    (hexit : ∀ a' w', UnSl r0 cB a' → (∀ i, w'.cell? ⟨r0 + 1, i, none⟩ = w3.cell? ⟨r0 + 1, i, none⟩) → Bn W C g (r0 + 1) [(r0 + 1, chF C g f), (cB, (unF C g v (f.shares.map (·.1)) (f.shares.map (·.2)) ((f.psks.take f.psks.length).map (·.1)) ((f.psks.take f.psks.length).map (·.2))))] none w' → Q0 (.exit 2) a' w')
    (hI : UnI2 W w3 C g r0 cB f v aS cS a w) :
    Code.wp Tryz.prog unBody2 (Exit.then (fun a' w'' => UnI2 W w3 C g r0 cB f v aS cS a' w'' ∧ f.psks.length - unIx 155 a' < f.psks.length - unIx 155 a) Q0) a w := by
  obtain ⟨j, hj, ⟨hdf, hsz, h2, h4, h5⟩, ⟨h129, h130, h131⟩, hm, hb⟩ := hI
  obtain ⟨s, dl⟩ := a
  simp only at hdf hsz h2 h4 h5 h129 h130 h131
  subst hdf
  obtain ⟨z, rfl⟩ := arr175 s hsz
  have e2 : z 2 = .pointer (some ⟨r0, 0, none⟩) := Option.some.inj h2
  have e4 : z 4 = .pointer (some ⟨r0 + 1, 0, none⟩) := Option.some.inj h4
  have e5 : z 5 = .pointer (some ⟨cB, 0, none⟩) := Option.some.inj h5
  have e129 : z 153 = .slice aS f.psks.length cS := Option.some.inj h129
  have e130 : z 154 = .int .i64 (f.psks.length : Nat) := Option.some.inj h130
  have e131 : z 155 = .int .i64 (j : Nat) := Option.some.inj h131
  rw [e2, e4, e5, e129, e130, e131]
  clear hsz h2 h4 h5 h129 h130 h131 e2 e4 e5 e129 e130 e131
  have HEX := Lib.hid hexit
  have HM := Lib.hid hm
  have HCELL := Lib.hid hcell
  have HB := Lib.hid hb
  clear hexit hm hb hcell
  conv => arg 2; whnf
  by_cases hjn : j < f.psks.length
  · have hjn2 : ((j : Nat) : Int) < ((f.psks.length : Nat) : Int) := by omega
    obtain ⟨G, hG⟩ : ∃ G, G = (f.psks.take j).map (·.2) := ⟨_, rfl⟩
    obtain ⟨D, hD⟩ : ∃ D, D = (f.psks.take j).map (·.1) := ⟨_, rfl⟩
    have hb := HB.out
    rw [← hG, ← hD] at hb
    have hGl : G.length ≤ 4294967296 := by rw [hG]; simp; omega
    have hDl : D.length ≤ 4294967296 := by rw [hD]; simp; omega
    obtain ⟨vk, usk, hvk, hok, hRk⟩ := hb.own (b := 0) (i := 24) rfl rfl
    rw [(HM.out 24).trans HCELL.out] at hvk
    cases hvk
    obtain ⟨pS, haS⟩ : ∃ p, aS = some ⟨p, 0, none⟩ := by
      rcases hok.2 with ⟨_, h⟩ | ⟨p, cap, cur, e, _⟩
      · omega
      · simp only [Value.slice.injEq] at e
        exact ⟨p, e.1⟩
    subst haS
    obtain ⟨x, hx⟩ : ∃ x, x = f.psks[j] := ⟨_, rfl⟩
    obtain ⟨⟨u, hx2, hx3⟩, hx1⟩ := hRk j x (by rw [hx]; exact List.getElem?_eq_getElem hjn)
    have q0 : w.cell? ⟨pS, j * 2, none⟩ = some (u) := by rw [hok.cellAt (j * 2) (by omega), Nat.mul_comm j 2]; exact hx2
    have q1 : w.cell? ⟨pS, j * 2 + 1, none⟩ = some (.int .u32 (x.2 : Nat)) := by rw [hok.cellAt (j * 2 + 1) (by omega), Nat.mul_comm j 2]; exact hx1
    obtain ⟨ax, cx, rfl, _, _⟩ := hx3.len
    have hpl : pS < w.heap.size := World.block_lt_of_cell? w _ q0
    have HB3 := Lib.hid hb
    have HX3 := Lib.hid hx3
    have HG2 : Hid (G ++ [x.2] = (f.psks.take (j + 1)).map (·.2)) := Lib.hid (by rw [List.take_succ_eq_append_getElem hjn, List.map_append, hG, hx]; rfl)
    have HD2 : Hid (D ++ [x.1] = (f.psks.take (j + 1)).map (·.1)) := Lib.hid (by rw [List.take_succ_eq_append_getElem hjn, List.map_append, hD, hx]; rfl)
    obtain ⟨xd, xg⟩ := x
    clear hb hx3 hG hD hx hx1 hx2 hRk hok
    simp only at q0 q1 HX3 HG2 HD2
    go_upto_region 13 with fail
    have hbk := HB3.out.add #[.slice ax xd.length cx, .int .u32 (xg : Nat)] 59 [.val (.slice ax xd.length cx), .val (.int .u32 (xg : Nat))] rfl (fun i fd hi => by
      match i, hi with
      | 0, hi => cases hi; exact ⟨rfl, _, rfl, rfl⟩
      | 1, hi => cases hi; exact ⟨rfl, _, rfl, rfl⟩)
    have HMK : Hid (∀ i, (w.alloc (.cells #[.slice ax xd.length cx, .int .u32 (xg : Nat)] 59)).cell? ⟨r0 + 1, i, none⟩ = w3.cell? ⟨r0 + 1, i, none⟩) := Lib.hid fun i => (World.cell?_alloc_lt w _ _ (HB3.out.lt (b := 0) rfl)).trans (HM.out i)
    obtain ⟨kB, hkB⟩ : ∃ x, x = w.heap.size := ⟨_, rfl⟩
    obtain ⟨wk, hwk⟩ : ∃ x, x = w.alloc (.cells #[.slice ax xd.length cx, .int .u32 (xg : Nat)] 59) := ⟨_, rfl⟩
    rw [← hkB] at hbk ⊢
    rw [← hwk] at hbk HMK ⊢
    have HBK : Hid (Bn W C g (r0 + 1) [(r0 + 1, chF C g f), (cB, (unF C g v (f.shares.map (·.1)) (f.shares.map (·.2)) D G)), (kB, [.val (.slice ax xd.length cx), .val (.int .u32 (xg : Nat))])] none wk) := Lib.hid hbk
    clear hbk hkB hwk q0 q1
    refine Code.wp_mono (Q := unReg2Post W C g (r0 + 1) cB kB (chF C g f) _ [.val (.slice ax xd.length cx), .val (.int .u32 (xg : Nat))] wk _) ?_ (unReg2_ok HX3.out rfl rfl rfl rfl rfl (by assumption) (by assumption) HBK.out)
    rintro e a' w' ⟨rfl, hdf, hsz, ⟨h2, h4, h5, h129, h130, h131⟩, hb, hm'⟩
    obtain ⟨s, dl⟩ := a'
    simp only at hdf hsz h2 h4 h5 h129 h130 h131
    subst hdf
    obtain ⟨y, rfl⟩ := arr175 s hsz
    have e2 : y 2 = .pointer (some ⟨r0, 0, none⟩) := Option.some.inj h2
    have e4 : y 4 = .pointer (some ⟨r0 + 1, 0, none⟩) := Option.some.inj h4
    have e5 : y 5 = .pointer (some ⟨cB, 0, none⟩) := Option.some.inj h5
    have e129 : y 153 = .slice (some ⟨pS, 0, none⟩) f.psks.length cS := Option.some.inj h129
    have e130 : y 154 = .int .i64 (f.psks.length : Nat) := Option.some.inj h130
    have e131 : y 155 = .int .i64 (j : Nat) := Option.some.inj h131
    rw [e2, e4, e5, e129, e130, e131]
    clear hsz h2 h4 h5 h129 h130 h131 e2 e4 e5 e129 e130 e131
    have HB4 := Lib.hid (hb.take 2)
    have HM4 := Lib.hid (fun i => (hm' i).trans (HMK.out i))
    clear hb hm'
    go_wp2_with fail
    refine ⟨⟨j + 1, by omega, ⟨rfl, rfl, rfl, rfl, rfl⟩, ⟨rfl, rfl, by simp⟩, HM4.out, ?_⟩, ?_⟩
    · have h := HB4.out
      rw [show G.length + 1 = (G ++ [xg]).length by simp, show D.length + 1 = (D ++ [xd]).length by simp] at h
      rw [← HG2.out, ← HD2.out]; exact h
    · simp [unIx, intOf]; omega
  · obtain rfl : j = f.psks.length := by omega
    have hjn2 : ¬ ((f.psks.length : Nat) : Int) < ((f.psks.length : Nat) : Int) := by omega
    go_wp2_with fail
    exact HEX.out _ _ ⟨rfl, rfl, rfl, rfl, rfl⟩ HM.out HB.out

end Go.Proofs.YtopcljikkdlffaaGreat
namespace Go.Proofs.YtopcljikkdlffaaGreat
open Go

section
variable {P : Program} {ops : Array Oper} {Q : Exit → Act → World → Prop} {S : World → Prop}

/-- Operation i of the head: it lays slot D + i; it waits for earlier ones alone; what it reads of the head's slots it waits for. -/
def headB (ops : Array Oper) (D i : Nat) (o : Oper) : Bool :=
  o.dst == some (D + i) && o.after.all (fun e => !Region.binds .any e || decide (e.on < i)) &&
    (o.looksAt ops).all (fun t => decide (t < D) || (decide (t < D + i) && o.after.any (fun e => Region.binds .any e && e.on == t - D)))

/-- An operation behind the head waits for all of it, and lays no slot that the head reads. -/
def behindB (n : Nat) (o : Oper) : Bool := (List.range n).all fun j => o.after.any (fun e => Region.binds .any e && e.on == j)

/-- Or it has nothing to do with the slots of the head. -/
def looseB (ops : Array Oper) (n : Nat) (o : Oper) : Bool := (List.range n).all fun k => match ops[k]? with
  | some ok => ok.apart ops o
  | none => true

def lineB (ops : Array Oper) (D n : Nat) : Bool := (List.range ops.size).all fun i => match ops[i]? with
  | some o => if i < n then headB ops D i o else behindB n o || looseB ops n o
  | none => true

/-- The first k are listed. -/
def firstK (ops : Array Oper) (k : Nat) : Array Bool := ((List.range ops.size).map fun j => decide (j < k)).toArray

theorem firstK_get (k j : Nat) : (firstK ops k)[j]? = if j < ops.size then some (decide (j < k)) else none := by
  unfold firstK
  rw [List.getElem?_toArray, List.getElem?_map]
  by_cases h : j < ops.size
  · rw [List.getElem?_range h, if_pos h]; rfl
  · rw [List.getElem?_eq_none (by simp; omega), if_neg h]; rfl

theorem firstK_set {k : Nat} : (firstK ops k).setIfInBounds k true = firstK ops (k + 1) := by
  apply Array.ext_getElem?
  intro j
  rw [Array.getElem?_setIfInBounds, firstK_get, firstK_get]
  have hs : (firstK ops k).size = ops.size := by simp [firstK]
  rw [hs]
  by_cases hk : k = j
  · subst hk
    simp
  · simp only [hk, if_false]
    split
    · have : (decide (j < k)) = decide (j < k + 1) := by
        rw [decide_eq_decide]; omega
      rw [this]
    · rfl

theorem okOrd_line {D n : Nat} {tl : List (Nat × Bool)} (hl : lineB ops D n = true) (hn : n ≤ ops.size) (ht : okOrd ops tl (firstK ops n) = true) :
    ∀ (m k : Nat), k + m = n → okOrd ops ((List.range' k m).map (fun i => (i, true)) ++ tl) (firstK ops k) = true := by
  have hall : ∀ i o, ops[i]? = some o → (if i < n then headB ops D i o else behindB n o || looseB ops n o) = true := by
    intro i o ho
    unfold lineB at hl
    rw [List.all_eq_true] at hl
    have h := hl i (List.mem_range.2 (Array.getElem?_eq_some_iff.1 ho).1)
    rw [ho] at h
    exact h
  intro m
  induction m with
  | zero =>
    intro k hk
    obtain rfl : k = n := by omega
    simpa using ht
  | succ m ih =>
    intro k hk
    have hkl : k < ops.size := by omega
    have hok : ops[k]? = some ops[k] := Array.getElem?_eq_getElem hkl
    have hhead := hall k _ hok
    rw [if_pos (by omega)] at hhead
    simp only [headB, Bool.and_eq_true, beq_iff_eq] at hhead
    obtain ⟨⟨hd, hafter⟩, hlook⟩ := hhead
    rw [List.range'_succ]
    simp only [List.map_cons, List.cons_append, okOrd, Bool.and_eq_true]
    refine ⟨⟨?_, ?_⟩, ?_⟩
    · rw [List.contains_iff_mem, mem_ready]
      refine ⟨?_, _, hok, fun e he hb => ?_⟩
      · rw [Array.getD_eq_getD_getElem?, firstK_get, if_pos hkl]; simp
      · have h := Array.all_eq_true_iff_forall_mem.1 hafter e he
        simp only [hb, Bool.not_true, Bool.false_or, decide_eq_true_eq] at h
        rw [Array.getD_eq_getD_getElem?, firstK_get, if_pos (by omega)]
        simp [h]
    · unfold Region.free
      rw [hok]
      simp only [List.all_eq_true, List.mem_range]
      intro j hj
      by_cases hjk : j = k
      · simp [hjk]
      · rcases Nat.lt_or_ge j k with hlt | hge
        · have : (firstK ops k).getD j true = true := by
            rw [Array.getD_eq_getD_getElem?, firstK_get, if_pos hj]; simp [hlt]
          simp [this]
        · have hoj : ops[j]? = some ops[j] := Array.getElem?_eq_getElem hj
          rw [hoj]
          simp only [Bool.or_eq_true]
          right
          have h := hall j _ hoj
          by_cases hjn : j < n
          · rw [if_pos hjn] at h
            simp only [headB, Bool.and_eq_true, beq_iff_eq] at h
            obtain ⟨⟨hdj, _⟩, hlookj⟩ := h
            by_cases hw : ops[j].after.any (fun e => Region.binds .any e && e.on == k) = true
            · exact .inl hw
            · right
              have h1 : (D + k) ∉ ops[j].looksAt ops := by
                intro hm
                have h := List.all_eq_true.1 hlookj _ hm
                simp only [Bool.or_eq_true, Bool.and_eq_true, decide_eq_true_eq] at h
                rcases h with h | ⟨_, h⟩
                · have h' : (D + k : Nat) < D := h
                  omega
                · rw [Nat.add_sub_cancel_left] at h
                  exact hw h
              have h2 : (D + j) ∉ ops[k].looksAt ops := by
                intro hm
                have h := List.all_eq_true.1 hlook _ hm
                simp only [Bool.or_eq_true, Bool.and_eq_true, decide_eq_true_eq] at h
                rcases h with h | ⟨h, _⟩
                · have h' : (D + j : Nat) < D := h
                  omega
                · have h' : (D + j : Nat) < D + k := h
                  omega
              unfold Oper.apart
              rw [hd, hdj]
              simp only [Bool.and_eq_true, Bool.not_eq_true', bne_iff_ne, ne_eq, Option.some.injEq]
              refine ⟨⟨?_, by omega⟩, ?_⟩
              · rw [← Bool.not_eq_true, List.contains_iff_mem]; exact h1
              · rw [← Bool.not_eq_true, List.contains_iff_mem]; exact h2
          · rw [if_neg hjn, Bool.or_eq_true] at h
            rcases h with h | h
            · left
              unfold behindB at h
              exact List.all_eq_true.1 h k (List.mem_range.2 (by omega))
            · right
              unfold looseB at h
              have h2 := List.all_eq_true.1 h k (List.mem_range.2 (by omega))
              rw [hok] at h2
              exact h2
    · rw [firstK_set]
      exact ih (k + 1) (by omega)

/-- Reads and reckonings, one behind the other, and then the rest of an order. -/
def wpLine (P : Program) (ops : Array Oper) (Q : Exit → Act → World → Prop) (S : World → Prop) (tl : List (Nat × Bool)) : Nat → List Oper → Act → World → Prop
  | _, [], a, w => wpOrd P ops Q S tl a w
  | i, o :: rest, a, w => ∃ v, (∀ w', S w' → (execOp a.eval o).run P w' = .ok (.value v) w') ∧ wpLine P ops Q S tl (i + 1) rest (a.put o.dst v) w

theorem wpOrd_of_line {tl : List (Nat × Bool)} : ∀ (l : List Oper) (i : Nat) (a : Act) (w : World), (∀ j, j < l.length → ops[i + j]? = l[j]?) → l.all (fun o => o.guard.isNone) = true → wpLine P ops Q S tl i l a w →
    wpOrd P ops Q S ((List.range' i l.length).map (fun i => (i, true)) ++ tl) a w
  | [], _, _, _, _, _, h => h
  | o :: rest, i, a, w, hl, hg, ⟨v, hr, h⟩ => by
    simp only [List.all_cons, Bool.and_eq_true, Option.isNone_iff_eq_none] at hg
    rw [List.length_cons, List.range'_succ]
    refine ⟨o, ?_, v, .inl ⟨by simp [Region.wanted, hg.1], hr⟩, ?_⟩
    · have := hl 0 (by simp)
      simpa using this
    · refine wpOrd_of_line rest (i + 1) _ w (fun j hj => ?_) hg.2 h
      have := hl (j + 1) (by simp; omega)
      rw [show i + 1 + j = i + (j + 1) by omega, this]
      simp

/-- A long region that draws its order: n operations that read or reckon, then the tail. -/
theorem region_line {id : Nat} {a : Act} {w : World} {l : List Oper} (D n : Nat) (tl : List (Nat × Bool)) (S : World → Prop) (hm : P.follows .mixedOrders = true) (hsel : Region.noSelect l.toArray = true)
    (hn : n + tl.length = l.length) (hl : lineB l.toArray D n = true) (ht : okOrd l.toArray tl (firstK l.toArray n) = true) (hg : (l.take n).all (fun o => o.guard.isNone) = true)
    (hQ : ∀ c a (d : Option Tmp) v w, Q (.panic c) (a.put d v) w → Q (.panic c) a w) (hS : S w.drew) (h : wpLine P l.toArray Q S tl 0 (l.take n) a w.drew) :
    (Code.region id l.toArray true).wp P Q a w := by
  have hlen : (l.take n).length = n := by simp; omega
  have h1 := okOrd_line (ops := l.toArray) hl (by simp; omega) ht n 0 (by omega)
  have e0 : firstK l.toArray 0 = Array.replicate l.toArray.size false := by
    apply Array.ext_getElem?
    intro j
    rw [firstK_get, Array.getElem?_replicate]
    simp
  rw [e0] at h1
  refine region_ord ((List.range' 0 n).map (fun i => (i, true)) ++ tl) S hm hsel h1 (by simp; omega) hQ hS ?_
  have h2 := wpOrd_of_line (l.take n) 0 a w.drew (fun j hj => by
    rw [hlen] at hj
    rw [Nat.zero_add, List.getElem?_toArray, List.getElem?_take_of_lt hj]) hg h
  rw [hlen] at h2
  exact h2

end
end Go.Proofs.YtopcljikkdlffaaGreat
namespace Go.Proofs.YtopcljikkdlffaaGreat
open Go.RowKit

section
variable {w0 w : World} {C : Array Value} {g m x : Nat} {rnd : FD} {f : CH} {st : Nat × List UInt8}

end
end Go.Proofs.YtopcljikkdlffaaGreat
namespace Go.Proofs.YtopcljikkdlffaaGreat
open Go.RowKit

section
variable {w0 w : World} {C : Array Value} {g m x : Nat} {rnd : FD} {f : CH} {st : Nat × List UInt8}

end
end Go.Proofs.YtopcljikkdlffaaGreat
namespace Go.Proofs.YtopcljikkdlffaaGreat
open Go.RowKit

section
variable {w0 w w' : World} {C : Array Value} {g m : Nat} {F : List FD}

end

section
variable {w0 w : World} {C : Array Value} {g m x : Nat} {rnd : FD} {f : CH} {st : Nat × List UInt8}

end
end Go.Proofs.YtopcljikkdlffaaGreat
namespace Go.Proofs.YtopcljikkdlffaaGreat
open Go.RowKit

section
variable {w0 w : World} {C : Array Value} {g m x : Nat} {rnd : FD} {f : CH} {st : Nat × List UInt8}

end
end Go.Proofs.YtopcljikkdlffaaGreat
namespace Go.Proofs.YtopcljikkdlffaaGreat

end Go.Proofs.YtopcljikkdlffaaGreat
namespace Go.Proofs.YtopcljikkdlffaaGreat

end Go.Proofs.YtopcljikkdlffaaGreat
namespace Go.Proofs.YtopcljikkdlffaaGreat

end Go.Proofs.YtopcljikkdlffaaGreat
namespace Go.Proofs.YtopcljikkdlffaaGreat

end Go.Proofs.YtopcljikkdlffaaGreat
namespace Go.Proofs.YtopcljikkdlffaaGreat
open Go.RowKit

/-- The cells of a ClientHello that nothing was said of. -/
def zero31 : Array Value := #[.int .u16 0, .slice none 0 0, .slice none 0 0, .slice none 0 0, .slice none 0 0, .string ⟨#[]⟩, .bool false, .slice none 0 0, .slice none 0 0, .bool false, .slice none 0 0, .slice none 0 0, .slice none 0 0, .bool false, .slice none 0 0, .bool false, .slice none 0 0, .bool false, .slice none 0 0, .slice none 0 0, .slice none 0 0, .slice none 0 0, .bool false, .slice none 0 0, .slice none 0 0, .slice none 0 0, .slice none 0 0, .bool false, .slice none 0 0, .slice none 0 0, .slice none 0 0]

/-- What a ClientHello by value shows. -/
structure CHV (w : World) (base : Nat) (C : Array Value) (g : Nat) (f : CH) (D : Array Value) : Prop where
  size : D.size = 31
  one : D.all (·.oneCell') = true
  data : ∃ T fr, w.heap[g]? = some (.cells C T fr)
  rel : ∀ (i : Nat) (fd : FD), (rV C g (.vn f.random) f)[i]? = some fd → ∃ v, D[i]? = some v ∧ FRel w base C g fd v

/-- What such a cell shows is one cell. -/
def fdOne : FD → Bool
  | .val u => u.oneCell'
  | .any => false
  | _ => true

theorem FRel.one {w : World} {base : Nat} {C : Array Value} {g : Nat} {fd : FD} {v : Value} (h : FRel w base C g fd v) (hf : fdOne fd = true) : v.oneCell' = true := by
  cases fd with
  | any => cases hf
  | val u => rw [h]; exact hf
  | vw l => obtain ⟨off, cap, rfl, _⟩ := View.slice h; rfl
  | vn l => obtain ⟨a, cap, rfl, _⟩ := VN.len h; rfl
  | vz l =>
    rcases h with ⟨_, rfl⟩ | ⟨_, h⟩
    · rfl
    · obtain ⟨off, cap, rfl, _⟩ := View.slice h; rfl
  | own e size n R =>
    obtain ⟨us, h1, _⟩ := h
    obtain ⟨a, c, rfl⟩ := row_slice h1
    rfl

theorem rV_one {C : Array Value} {g : Nat} {rnd : FD} {f : CH} (h : fdOne rnd = true) : (rV C g rnd f).all fdOne = true := by
  simp only [rV, List.all_cons, List.all_nil, h]
  simp [fdOne, Value.oneCell']

/-- The block of a ClientHello whose cells show fields. -/
theorem Bn.cells {w0 w : World} {C : Array Value} {g m : Nat} {rnd : FD} {f : CH} (h : Bn w0 C g m [(m, rV C g rnd f)] none w) (hr : fdOne rnd = true) : ∃ (D : Array Value) (T : TypeId), w.heap[m]? = some (.cells D T (0, 0)) ∧ D.size = 31 ∧ D.all (·.oneCell') = true ∧
    ∀ (i : Nat) (fd : FD), (rV C g rnd f)[i]? = some fd → ∃ v, D[i]? = some v ∧ FRel w w0.heap.size C g fd v := by
  obtain ⟨D, T, hh, hs⟩ := h.blk 0 m _ rfl
  have hs31 : D.size = 31 := hs
  have hrel : ∀ (i : Nat) (fd : FD), (rV C g rnd f)[i]? = some fd → ∃ v, D[i]? = some v ∧ FRel w w0.heap.size C g fd v := fun i fd hi => by
    obtain ⟨v, hv, hf⟩ := h.rel 0 m _ i fd rfl hi
    rw [cell_of_heap hh] at hv
    exact ⟨v, hv, hf⟩
  refine ⟨D, T, hh, hs31, ?_, hrel⟩
  rw [Array.all_eq_true]
  intro i hi
  have hl : (rV C g rnd f).length = 31 := rfl
  obtain ⟨v, hv, hf⟩ := hrel i _ (List.getElem?_eq_getElem (show i < (rV C g rnd f).length by omega))
  have h1 := hf.one (List.all_eq_true.1 (rV_one hr) _ (List.getElem_mem _))
  rw [Array.getElem?_eq_getElem hi] at hv
  cases hv
  exact h1

end Go.Proofs.YtopcljikkdlffaaGreat
