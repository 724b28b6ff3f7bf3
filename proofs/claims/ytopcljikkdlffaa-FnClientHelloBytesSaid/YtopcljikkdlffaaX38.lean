/- The reference reads a ClientHello: what is found, and what its fields show. No statement of the seat is proved here. -/
import Derived.Test.YtopcljikkdlffaaX35
namespace Go.Proofs.Ytopcljikkdlffaa
open Go.RowKit

theorem ExL.kt {w w' : World} {base : Nat} {C : Array Value} {g : Nat} {v : Value} {L : List (Nat × List UInt8)} {l : List Nat} (h : ExL w base C g v L) (hk : Kt l w w') (hl : ∀ p ∈ l, p < base) : ExL w' base C g v L := by
  obtain ⟨xs, ho, h1, h2⟩ := h
  refine ⟨xs, own_kept ho fun k hb => ?_, h1, h2⟩
  have h3 := (ho.lt k hb).1
  rcases ho.2 with ⟨rfl, _⟩ | ⟨p, cap, cur, rfl, _, hh, _⟩
  · cases hb
  · simp only [Value.ownBlock, Option.some.injEq] at hb
    subst hb
    exact hk.keep p (fun hm => by have := hl p hm; omega) ⟨_, _, _, hh, .inr rfl⟩

def RchPost (w : World) (bs : List UInt8) (e : Ending) (w' : World) : Prop :=
  ∃ D : Array Value, e = .returned (.tuple #[.agg D, .int .i64 ((rch bs).2 : Nat)]) ∧ Below w.heap.size w w' ∧ D.size = 31 ∧ D.all (·.oneCell') = true ∧ ((rch bs).2 = 0 → ∃ (C : Array Value) (g base : Nat), w.heap.size ≤ base ∧ g < w.heap.size ∧ CHV w' base C g (rch bs).1 D)

set_option maxRecDepth 100000 in
set_option maxHeartbeats 8000000 in
theorem rch_ok {v : Value} {bs : List UInt8} (w : World) (hIn : InB w w.heap.size v bs) : Calls Try.prog 29 #[v] w (RchPost w bs) := by
  obtain ⟨a, cap, rfl⟩ := hIn.slice
  have HIN := Lib.hid hIn
  clear hIn
  go_enter Try.func29, Try.ntmps29
  go_wp2_with fail
  obtain ⟨W, hW⟩ : ∃ x, x = (w.alloc (.cells zero31 52)).alloc (.cells zero31 52) := ⟨_, rfl⟩
  change Calls _ _ _ ((w.alloc (.cells zero31 52)).alloc (.cells zero31 52)) _
  rw [← hW]
  obtain ⟨r0, hr0⟩ : ∃ x, x = w.heap.size := ⟨_, rfl⟩
  have hWs : W.heap.size = r0 + 2 := by rw [hW, hr0]; simp
  have hZ : W.heap[r0]? = some (.cells zero31 52 (0, 0)) := by rw [hW, hr0, Below.heap_alloc _ _ _ (by simp)]; exact heap_alloc_new _ _
  have hM0 : W.heap[r0 + 1]? = some (.cells zero31 52 (0, 0)) := by rw [hW, hr0]; have h := heap_alloc_new (w.alloc (.cells zero31 52)) (.cells zero31 52); rwa [World.size_alloc] at h
  have hB0 : Below r0 w W := by rw [hW, hr0]; exact ((Below.refl _ w).alloc (Nat.le_refl _) _).alloc (by simp) _
  rw [← hr0] at HIN ⊢
  have hIn := HIN.out.below hB0
  have HB0 := Lib.hid hB0
  have HZ := Lib.hid hZ
  have HM0 := Lib.hid hM0
  have HR0 := Lib.hid hr0
  clear hW hr0 hB0 hM0
  refine (body_at W hIn hZ).mono ?_
  rintro e w1 ⟨rfl, hf1, C, g, T, fr, hr1, hg1, hgl, hgx⟩
  rw [hWs] at hr1 hgl ⊢
  obtain ⟨c, hc⟩ : ∃ c, c = r0 + 2 := ⟨_, rfl⟩
  obtain ⟨m, hm⟩ : ∃ m, m = r0 + 1 := ⟨_, rfl⟩
  rw [← hc] at hr1 ⊢
  rw [← hm] at HM0 ⊢
  have hgc : g ≠ c := by omega
  have hgm : g ≠ m := by omega
  have hcm : c ≠ m := by omega
  have hmc : m ≠ c := by omega
  have hcW : W.heap.size ≤ c := by omega
  have hmW : m < W.heap.size := by omega
  have hgW : g < W.heap.size := by omega
  have hrm : r0 ≠ m := by omega
  have hrc : r0 ≠ c := by omega
  have HGX := Lib.hid hgx
  have HC := Lib.hid hc
  have HMM := Lib.hid hm
  have HWS := Lib.hid hWs
  have HG := Lib.hid ((hf1.keep g (by omega) (by simp)).symm.trans hg1)
  have HR1 := Lib.hid hr1
  have HB1 := Lib.hid ((rV_start (Fs.refl [m] W) hgm HG.out HM0.out).keep hf1)
  clear hIn hZ hf1 hr1 hg1 hgx hgl hc hm hWs
  have gk : ∀ (wx : World) (F : List FD), Bn W C g m [(m, F)] none wx → wx.heap[g]? = some (.cells C T fr) := fun wx F hb => (hb.fs.keep g hgW (by simpa using hgm)).trans HG.out
  have GK := Lib.hid gk
  clear gk
  go_wp2_with fail
  -- version
  refine (num_ok 2 w1 (by omega) (GK.out _ _ HB1.out) hgc HR1.out).mono ?_
  rintro e w2 ⟨rfl, hr, hf⟩
  have hlt := rnum_lt (k := 2) (st := rbody0 1 bs)
  have HB2a := Lib.hid (HB1.out.rd1 (hf.fs (l := [c]) (by simp)) hcW HR1.out hmW (rV_ok rfl))
  obtain ⟨s0, hs0⟩ : ∃ x, x = rh0 bs := ⟨_, rfl⟩
  have hs0' : rnum 2 (rbody0 1 bs) = s0 := hs0.symm
  rw [hs0'] at hr hlt ⊢
  have HS0 := Lib.hid hs0
  obtain ⟨n0, st0⟩ := s0
  simp only at hr hlt ⊢
  have hw16 : IntKind.u16.wrap ((n0 : Nat) : Int) = (n0 : Int) := by simp [IntKind.wrap, IntKind.signed, IntKind.bits]; omega
  have HR2a := Lib.hid hr
  obtain ⟨u0, q0, _⟩ := HB2a.out.at (b := 0) (i := 0) rfl rfl
  have z0 := HB2a.out.frozen (b := 0) rfl 0
  clear hr hf hs0 hs0' hlt
  go_upto_region 4 with fail
  have HB2 : Hid (Bn W C g m [(m, rV C g (.vn []) { vers := n0 })] none (w2.setCell ⟨m, 0, none⟩ (.int .u16 (n0 : Nat)))) := Lib.hid (HB2a.out.set (b := 0) (i := 0) rfl rfl (.val (.int .u16 (n0 : Nat))) _ rfl rfl)
  have HR2 := Lib.hid (HR2a.out.setOther m 0 (.int .u16 (n0 : Nat)) hcm)
  generalize w2.setCell ⟨m, 0, none⟩ (.int .u16 (n0 : Nat)) = x2 at HB2 HR2 ⊢
  clear q0 z0 HB2a HR2a hw16
  go_wp2_with fail
  -- random
  refine (take_rnd x2 (GK.out _ _ HB2.out) hgc HR2.out W.heap.size).mono ?_
  rintro e w3 ⟨a3, c3, rfl, hv, hr, hf⟩
  have HB3a := Lib.hid (HB2.out.rd1 (hf.fs (l := [c]) (by simp)) hcW HR2.out hmW (rV_ok rfl))
  have h1e : rh1 bs = (rnum 32 st0).2 := by unfold rh1; rw [← HS0.out]
  obtain ⟨st1, hst1⟩ : ∃ x, x = rh1 bs := ⟨_, rfl⟩
  rw [← h1e, ← hst1] at hr
  have HS1 := Lib.hid hst1
  have HR3a := Lib.hid hr
  obtain ⟨rnd, hrnd⟩ : ∃ x, x = rndF st0 (.slice a3 32 c3) := ⟨_, rfl⟩
  have hro : rnd.isOwn = false := by rw [hrnd]; exact rndF_own st0 _
  have hrn1 : fdOne rnd = true := by rw [hrnd]; exact rndF_one st0 _ rfl
  rw [← hrnd] at hv
  have HV3 := Lib.hid hv
  have HRND := Lib.hid hrnd
  obtain ⟨u1, q1, _⟩ := HB3a.out.at (b := 0) (i := 1) rfl rfl
  have z1 := HB3a.out.frozen (b := 0) rfl 1
  clear hr hf hst1 h1e hv hrnd
  go_upto_region 5 with fail
  have HB3 : Hid (Bn W C g m [(m, rV C g rnd { vers := n0 })] none (w3.setCell ⟨m, 1, none⟩ (.slice a3 32 c3))) := Lib.hid (HB3a.out.set (b := 0) (i := 1) rfl rfl rnd _ hro HV3.out)
  have HR3 := Lib.hid (HR3a.out.setOther m 1 (.slice a3 32 c3) hcm)
  generalize w3.setCell ⟨m, 1, none⟩ (.slice a3 32 c3) = x3 at HB3 HR3 ⊢
  clear q1 z1 HB3a HR3a HV3 HB2 HR2
  go_wp2_with fail
  -- session
  refine (vec_ok 1 0 255 x3 (by omega) (GK.out _ _ HB3.out) hgc HR3.out).mono ?_
  rintro e w4 ⟨u, rfl, hv, hr, hf⟩
  have hl4 := rvec_len (k := 1) (low := 0) (high := 255) (st := st1)
  have h2e : rh2 bs = rvec 1 0 255 st1 := by unfold rh2; rw [HS1.out]
  obtain ⟨sv, st2, hse⟩ : ∃ a b, rh2 bs = (a, b) := ⟨_, _, (Prod.eta (rh2 bs)).symm⟩
  rw [hse] at h2e
  rw [← h2e] at hv hr hl4
  simp only at hv hr hl4
  have HS2 : Hid (rh2 bs = (sv, st2)) := Lib.hid hse
  have HV4 := Lib.hid hv
  have HR4a := Lib.hid hr
  have HB4a := Lib.hid (HB3.out.rd1 (hf.fs (l := [c]) (by simp)) hcW HR3.out hmW (rV_ok hro))
  obtain ⟨a4, c4, rfl, _, _⟩ := hv.len
  obtain ⟨u2, q2, _⟩ := HB4a.out.at (b := 0) (i := 2) rfl rfl
  have z2 := HB4a.out.frozen (b := 0) rfl 2
  clear hv hr hf hse h2e
  go_upto_region 6 with fail
  have HB4 : Hid (Bn W C g m [(m, rV C g rnd { vers := n0, session := sv })] none (w4.setCell ⟨m, 2, none⟩ (.slice a4 sv.length c4))) := Lib.hid (HB4a.out.set (b := 0) (i := 2) rfl rfl (.vn sv) _ rfl HV4.out)
  have HR4 := Lib.hid (HR4a.out.setOther m 2 (.slice a4 sv.length c4) hcm)
  generalize w4.setCell ⟨m, 2, none⟩ (.slice a4 sv.length c4) = x4 at HB4 HR4 ⊢
  clear q2 z2 HB4a HR4a HV4 HB3 HR3
  go_wp2_with fail
  -- cipher suites
  refine (vec_ok 2 0 65535 x4 (by omega) (GK.out _ _ HB4.out) hgc HR4.out).mono ?_
  rintro e w5 ⟨u, rfl, hv, hr, hf⟩
  have hl5 := rvec_len (k := 2) (low := 0) (high := 65535) (st := st2)
  have h3e : rh3 bs = rvec 2 0 65535 st2 := by unfold rh3; rw [HS2.out]
  rw [← h3e] at hv hr hl5
  have HV5 := Lib.hid hv
  have HR5 := Lib.hid hr
  have HB5 := Lib.hid (HB4.out.rd1 (hf.fs (l := [c]) (by simp)) hcW HR4.out hmW (rV_ok hro))
  obtain ⟨a5, c5, rfl, _, _⟩ := hv.len
  obtain ⟨n5, hn5⟩ : ∃ n, n = (rh3 bs).1.length := ⟨_, rfl⟩
  rw [← hn5] at HV5 hl5 ⊢
  have HN5 := Lib.hid hn5
  clear hv hr hf h3e hn5
  go_wp2_with fail
  refine (words_ok w5 (GK.out _ _ HB5.out) hgc (by rw [← HN5.out]; omega) HV5.out HR5.out).mono ?_
  rintro e w6 ⟨o, rfl, ⟨us, hown, hus⟩, hr, hf⟩
  have h4e : rwords (rh3 bs).2 (rh3 bs).1 = rh4 bs := rfl
  obtain ⟨su, st4, hse⟩ : ∃ a b, rh4 bs = (a, b) := ⟨_, _, (Prod.eta (rh4 bs)).symm⟩
  rw [h4e, hse] at hown hus hr
  simp only at hown hus hr
  have HS4 : Hid (rh4 bs = (su, st4)) := Lib.hid hse
  obtain ⟨a6, c6, rfl⟩ := row_slice hown
  have hsul : su.length ≤ 65535 := by
    have h := rwords_few (rh3 bs).2 (rh3 bs).1
    rw [h4e, hse, ← HN5.out] at h
    simp only at h
    omega
  have HB6a := Lib.hid (HB5.out.rd1 hf hcW HR5.out hmW (rV_ok hro))
  have HH6 := Lib.hid (hf.keep m (HB5.out.lt (b := 0) rfl) (by simpa using hmc))
  have HO6 := Lib.hid hown
  have HU6 := Lib.hid hus
  have HR6a := Lib.hid hr
  obtain ⟨u3, q3, _⟩ := HB6a.out.at (b := 0) (i := 3) rfl rfl
  have z3 := HB6a.out.frozen (b := 0) rfl 3
  clear hown hus hr hf hse h4e
  go_upto_region 7 with fail
  have HB6 : Hid (Bn W C g m [(m, rV C g rnd { vers := n0, session := sv, suites := su })] none (w6.setCell ⟨m, 3, none⟩ (.slice a6 su.length c6))) := Lib.hid (Bn.newrow HB5.out HB6a.out HH6.out HO6.out (i := 3) rfl (ShowU su) HU6.out)
  have HR6 := Lib.hid (HR6a.out.setOther m 3 (.slice a6 su.length c6) hcm)
  generalize w6.setCell ⟨m, 3, none⟩ (.slice a6 su.length c6) = x6 at HB6 HR6 ⊢
  clear q3 z3 HB6a HR6a HB5 HR5 HB4 HR4 HO6 HU6 HH6 HV5
  go_wp2_with fail
  -- compression methods
  refine (vec_ok 1 0 255 x6 (by omega) (GK.out _ _ HB6.out) hgc HR6.out).mono ?_
  rintro e w7 ⟨u, rfl, hv, hr, hf⟩
  have hl7 := rvec_len (k := 1) (low := 0) (high := 255) (st := st4)
  have h5e : rh5 bs = rvec 1 0 255 st4 := by unfold rh5; rw [HS4.out]
  obtain ⟨co, st5, hse⟩ : ∃ a b, rh5 bs = (a, b) := ⟨_, _, (Prod.eta (rh5 bs)).symm⟩
  rw [hse] at h5e
  rw [← h5e] at hv hr hl7
  simp only at hv hr hl7
  have HS5 : Hid (rh5 bs = (co, st5)) := Lib.hid hse
  have HV7 := Lib.hid hv
  have HR7a := Lib.hid hr
  have HB7a := Lib.hid (HB6.out.rd1 (hf.fs (l := [c]) (by simp)) hcW HR6.out hmW (rV_ok hro))
  obtain ⟨a7, c7, rfl, _, _⟩ := hv.len
  obtain ⟨u4, q4, _⟩ := HB7a.out.at (b := 0) (i := 4) rfl rfl
  have z4 := HB7a.out.frozen (b := 0) rfl 4
  clear hv hr hf hse h5e
  go_upto_region 8 with fail
  have HB7 : Hid (Bn W C g m [(m, rV C g rnd { vers := n0, session := sv, suites := su, comps := co })] none (w7.setCell ⟨m, 4, none⟩ (.slice a7 co.length c7))) := Lib.hid (HB7a.out.set (b := 0) (i := 4) rfl rfl (.vn co) _ rfl HV7.out)
  have HR7 := Lib.hid (HR7a.out.setOther m 4 (.slice a7 co.length c7) hcm)
  generalize w7.setCell ⟨m, 4, none⟩ (.slice a7 co.length c7) = x7 at HB7 HR7 ⊢
  clear q4 z4 HB7a HR7a HB6 HR6 HV7
  obtain ⟨v3, us3, q3, ho3, hR3⟩ := HB7.out.own (b := 0) (i := 3) rfl rfl
  have HO3 : Hid (OutU x7 W.heap.size v3 su) := Lib.hid ⟨us3, ho3, hR3⟩
  obtain ⟨a8, c8, rfl⟩ := row_slice ho3
  clear ho3 hR3
  go_wp2_with fail
  refine (signals_ok x7 HO3.out (by omega)).mono ?_
  rintro e w8 ⟨rfl, hw8⟩
  subst hw8
  obtain ⟨sg, hsg⟩ : ∃ b, b = decide (255 ∈ su) := ⟨_, rfl⟩
  rw [← hsg]
  have HSG := Lib.hid hsg
  obtain ⟨u13, q13, _⟩ := HB7.out.at (b := 0) (i := 13) rfl rfl
  have z13 := HB7.out.frozen (b := 0) rfl 13
  clear hsg q3 HO3
  go_upto_region 9 with fail
  have HB8 : Hid (Bn W C g m [(m, rV C g rnd { vers := n0, session := sv, suites := su, comps := co, srs := sg })] none (w8.setCell ⟨m, 13, none⟩ (.bool sg))) := Lib.hid (HB7.out.set (b := 0) (i := 13) rfl rfl (.val (.bool sg)) _ rfl rfl)
  have HR8 := Lib.hid (HR7.out.setOther m 13 (.bool sg) hcm)
  generalize w8.setCell ⟨m, 13, none⟩ (.bool sg) = x8 at HB8 HR8 ⊢
  clear q13 z13 HB7 HR7
  have HBF : Hid (Bn W C g m [(m, rV C g rnd (rhF bs))] none x8) := Lib.hid (by
    have e : rV C g rnd (rhF bs) = rV C g rnd { vers := n0, session := sv, suites := su, comps := co, srs := sg } := by
      unfold rhF
      rw [← HS0.out, HS2.out, HS4.out, HS5.out, HSG.out]
      rfl
    rw [e]
    exact HB8.out)
  have HSS : Hid (rhS bs = if st5.1 = 0 ∧ (32 < sv.length ∨ su = [] ∨ co = []) then rfail 1 st5 else st5) := Lib.hid (by
    unfold rhS
    rw [HS5.out, HS2.out, HS4.out])
  obtain ⟨code5, bs5⟩ := st5
  obtain ⟨vr, hh, hvr⟩ := id HR8.out
  obtain ⟨ar, cr, rfl, _, _⟩ := hvr.len
  simp only at hh hvr HSS
  have p0 : x8.cell? ⟨c, 0, none⟩ = some (.slice ar bs5.length cr) := by rw [cell_of_heap hh]; rfl
  have p1 : x8.cell? ⟨c, 1, none⟩ = some (.int .i64 code5) := by rw [cell_of_heap hh]; rfl
  obtain ⟨v2, q2, hv2⟩ := HB8.out.vn (b := 0) (i := 2) rfl rfl
  obtain ⟨a2', c2', rfl, _, _⟩ := hv2.len
  obtain ⟨v3', us3', q3, ho3, _⟩ := HB8.out.own (b := 0) (i := 3) rfl rfl
  obtain ⟨a3', c3', rfl⟩ := row_slice ho3
  obtain ⟨v4', q4, hv4⟩ := HB8.out.vn (b := 0) (i := 4) rfl rfl
  obtain ⟨a4', c4', rfl, _, _⟩ := hv4.len
  clear hh hvr hv2 ho3 hv4
  go_cut [56] (fun s w9 => s = .bool (decide (code5 = 0 ∧ (32 < sv.length ∨ su = [] ∨ co = []))) ∧ w9 = x8)
  case first =>
    by_cases h0 : code5 = 0
    · subst h0
      by_cases h1 : 32 < sv.length
      · have hd : decide (((sv.length : Nat) : Int) > 32) = true := by simp; omega
        have hd2 : ((sv.length : Nat) : Int) > 32 := by omega
        go_wp2_with fail
        go_meet
        case rel => exact ⟨by simp [h1], rfl⟩
      · have hd0 : decide (((sv.length : Nat) : Int) > 32) = false := by simp; omega
        have hd2 : ¬ ((sv.length : Nat) : Int) > 32 := by omega
        by_cases h2 : su = []
        · have k2 : su.length = 0 := by rw [h2]; rfl
          have hd : decide (((0 : Nat) = 0) ∧ (32 < sv.length ∨ su = [] ∨ co = [])) = true := by simp [h2]
          have HD := Lib.hid hd
          clear h2 hd
          go_wp2_with fail
          go_meet
          case rel => exact ⟨by rw [HD.out], rfl⟩
        · have k2 : ¬ su.length = 0 := fun h => h2 (List.length_eq_zero_iff.1 h)
          have k3 : ¬ ((su.length : Nat) : Int) = 0 := by omega
          have k4 : (((su.length : Nat) : Int) == 0) = false := by simp; omega
          by_cases h3 : co = []
          · have k5 : co.length = 0 := by rw [h3]; rfl
            have hd : decide (((0 : Nat) = 0) ∧ (32 < sv.length ∨ su = [] ∨ co = [])) = true := by simp [h3]
            have HD := Lib.hid hd
            clear h2 h3 hd
            go_wp2_with fail
            go_meet
            case rel => exact ⟨by rw [HD.out], rfl⟩
          · have k5 : ¬ co.length = 0 := fun h => h3 (List.length_eq_zero_iff.1 h)
            have k6 : ¬ ((co.length : Nat) : Int) = 0 := by omega
            have k7 : (((co.length : Nat) : Int) == 0) = false := by simp; omega
            have hd : decide (((0 : Nat) = 0) ∧ (32 < sv.length ∨ su = [] ∨ co = [])) = false := by simp [h1, h2, h3]
            have HD := Lib.hid hd
            clear h2 h3 hd
            go_wp2_with fail
            go_meet
            case rel => exact ⟨by rw [HD.out], rfl⟩
    · have k1 : ¬ ((code5 : Nat) : Int) = 0 := by omega
      have k2 : (((code5 : Nat) : Int) == 0) = false := by simp; omega
      go_wp2_with fail
      go_meet
      case rel => exact ⟨by simp [h0], rfl⟩
  case rest =>
    obtain ⟨rfl, rfl⟩ := hcut
    clear p0 p1 q2 q3 q4
    go_upto_if 56 with (fail)
    go_cut [] (fun w6 => RAt w6 c C g (rhS bs) ∧ Bn W C g m [(m, rV C g rnd (rhF bs))] none w6)
    case first =>
      by_cases hb : code5 = 0 ∧ (32 < sv.length ∨ su = [] ∨ co = [])
      · have HSE : Hid (rhS bs = rfail 1 (code5, bs5)) := Lib.hid (HSS.out.trans (if_pos hb))
        simp only [hb, decide_true, and_self]
        clear hb
        go_wp2_with fail
        refine (fail_ok 1 _ HR8.out).mono ?_
        rintro e w6 ⟨rfl, hr, hf⟩
        have HR6 := Lib.hid hr
        have HB6 := Lib.hid (HBF.out.rd1 (hf.fs (l := [c]) (by simp)) hcW HR8.out hmW (rV_ok hro))
        clear hr hf
        go_wp2_with fail
        go_meet
        case rel => exact ⟨by rw [HSE.out]; exact HR6.out, HB6.out⟩
      · have HSE : Hid (rhS bs = (code5, bs5)) := Lib.hid (HSS.out.trans (if_neg hb))
        simp only [hb, decide_false]
        clear hb
        go_wp2_with fail
        go_meet
        case rel => exact ⟨by rw [HSE.out]; exact HR8.out, HBF.out⟩
    case rest =>
      obtain ⟨hr6, hb6⟩ := hcut
      obtain ⟨code6, bs6, hs6⟩ : ∃ a b, rhS bs = (a, b) := ⟨_, _, (Prod.eta (rhS bs)).symm⟩
      rw [hs6] at hr6
      have HS6 := Lib.hid hs6
      have HR6 := Lib.hid hr6
      have HB6 := Lib.hid hb6
      clear hr6 hb6 hs6 HR8 HBF HB8 HSS
      obtain ⟨wd, rfl⟩ : ∃ x, x = wc := ⟨_, rfl⟩
      obtain ⟨vr, hh, hvr⟩ := id HR6.out
      obtain ⟨ar6, cr6, rfl, _, _⟩ := hvr.len
      simp only at hh hvr
      have p0 : wd.cell? ⟨c, 0, none⟩ = some (.slice ar6 bs6.length cr6) := by rw [cell_of_heap hh]; rfl
      have p1 : wd.cell? ⟨c, 1, none⟩ = some (.int .i64 code6) := by rw [cell_of_heap hh]; rfl
      clear hh hvr
      have hend1 : ∀ (w9 : World) (F : CH) (code9 : Nat) (bs9 : List UInt8), RAt w9 c C g (code9, bs9) → Bn W C g m [(m, rV C g rnd F)] none w9 → rch bs = (F, code9) →
          ∃ (D : Array Value) (TD : TypeId), w9.heap[m]? = some (.cells D TD (0, 0)) ∧ (Try.prog.info? 52).map (·.size) = some D.size ∧ D.all (·.oneCell') = true ∧ w9.heap[r0]? = some (.cells zero31 52 (0, 0)) ∧ zero31.size = D.size ∧
            RchPost w bs (.returned (.tuple #[.agg D, .int .i64 code9])) ((w9.drew).setRow r0 D) := by
        intro w9 F code9 bs9 hr hb he
        obtain ⟨D, TD, hD, hDs, hD1, hrel⟩ := hb.cells hrn1
        have hws := HWS.out
        have h0 := HR0.out
        have hz : w9.heap[r0]? = some (.cells zero31 52 (0, 0)) := (hb.fs.keep r0 (by omega) (by simpa using hrm)).trans HZ.out
        have hsz := hb.fs.size
        refine ⟨D, TD, hD, by rw [hDs]; kernel_rfl, hD1, hz, by rw [hDs]; rfl, D, by rw [he], ?_, hDs, hD1, fun hcode => ?_⟩
        · rw [← HR0.out]
          refine ⟨hb.fs.os.trans HB0.out.os, hb.fs.tape.trans HB0.out.tape, hb.fs.output.trans HB0.out.output, ?_, fun k hk => ?_⟩
          · rw [size_setRow]
            show w.heap.size ≤ w9.heap.size
            omega
          · rw [setRow_other _ _ _ _ (by omega)]
            have hmm := HMM.out
            exact (hb.fs.keep k (by omega) (by simp; omega)).trans (HB0.out.block k hk)
        · have hlong := rch_long hcode
          have hrand := rch_random bs
          have hg0 : g < r0 := by
            rcases HGX.out with ⟨h4, _⟩ | ⟨_, h4⟩
            · have := rch_short h4
              omega
            · exact h4
          have hrn : rnd = .vn (rch bs).1.random := by
            rw [HRND.out, hrand]
            have e0 : (rh0 bs).2 = st0 := by rw [← HS0.out]
            rw [e0] at hlong ⊢
            unfold rndF
            rw [if_neg (by omega)]
          rw [he] at hrn
          simp only at hrn
          refine ⟨C, g, W.heap.size, by omega, by omega, hDs, hD1, ⟨T, fr, ?_⟩, fun i fd hi => ?_⟩
          · rw [setRow_other _ _ _ _ (by omega)]
            exact (GK.out w9 _ hb)
          · rw [he] at hi
            rw [← hrn] at hi
            obtain ⟨v, hv, hfr⟩ := hrel i fd hi
            refine ⟨v, hv, hfr.kept fun ho k hk => ?_⟩
            have := (hfr.lt ho k hk).1
            exact setRow_other _ _ _ _ (by omega)
      have HEND := Lib.hid hend1
      clear hend1
      go_upto_region 11 with (fail)
      go_cut [71] (fun s w9 => s = .bool (decide (code6 ≠ 0 ∨ bs6 = [])) ∧ w9 = wd)
      case first =>
        by_cases h0 : code6 = 0
        · subst h0
          by_cases h1 : bs6 = []
          · have hd : decide ((0 : Nat) ≠ 0 ∨ bs6 = []) = true := by simp [h1]
            have k1 : bs6.length = 0 := by rw [h1]; rfl
            have HD := Lib.hid hd
            clear hd h1
            go_wp2_with fail
            go_meet
            case rel => exact ⟨by rw [HD.out], rfl⟩
          · have k1 : ¬ bs6.length = 0 := fun h => h1 (List.length_eq_zero_iff.1 h)
            have k2 : (((bs6.length : Nat) : Int) == 0) = false := by simp; omega
            have k3 : ¬ ((bs6.length : Nat) : Int) = 0 := by omega
            have hd : decide ((0 : Nat) ≠ 0 ∨ bs6 = []) = false := by simp [h1]
            have HD := Lib.hid hd
            clear hd h1
            go_wp2_with fail
            go_meet
            case rel => exact ⟨by rw [HD.out], rfl⟩
        · have k1 : ¬ ((code6 : Nat) : Int) = 0 := by omega
          have k2 : (((code6 : Nat) : Int) == 0) = false := by simp; omega
          go_wp2_with fail
          go_meet
          case rel => exact ⟨by simp [h0], rfl⟩
      case rest =>
        obtain ⟨rfl, rfl⟩ := hcut
        clear p0
        by_cases hb : code6 ≠ 0 ∨ bs6 = []
        · have hrch : rch bs = (rhF bs, code6) := by
            unfold rch
            rw [HS6.out, if_pos hb]
          simp only [hb, decide_true]
          obtain ⟨D, TD, hD, hDi, hD1, hz, hzs, hpost⟩ := HEND.out _ _ _ _ HR6.out HB6.out hrch
          have HP := Lib.hid hpost
          have HZ9 := Lib.hid hz
          have HD := Lib.hid hD
          clear hz hD hpost hrch hb
          go_wp2_with fail
          refine region_ord [(0, true), (1, true), (2, true), (3, true), (4, true), (5, false), (6, true)] (fun w' => w'.heap[m]? = some (.cells D TD (0, 0)) ∧ w'.cell? ⟨c, 1, none⟩ = some (.int .i64 code6)) mixed (by kernel_rfl) (by kernel_rfl) rfl (by intro c a d v w h; cases d <;> exact h) ⟨HD.out, p1⟩ ?_
          apply wpOrd_pure rfl rfl
          refine ⟨.agg D, fun w' hS => exec_load_row 52 (.tmp 4) rfl m rfl TD D (0, 0) _ hS.1 Try.underlying52 rfl hDi, ?_⟩
          simp only [List.getElem_toArray, List.getElem_cons_succ, List.getElem_cons_zero, Act.put, List.setIfInBounds_toArray, List.set_cons_zero, List.set_cons_succ]
          iterate 4 (apply wpOrd_pure rfl rfl; apply Exists.intro; refine ⟨fun w' hS => ?_, ?_⟩; (· (have hS2 := hS.2; clear hS; first | (go_simp; done) | (go_simp; with_reducible rfl))); simp only [List.getElem_toArray, List.getElem_cons_succ, List.getElem_cons_zero, Act.put, List.setIfInBounds_toArray, List.set_cons_zero, List.set_cons_succ])
          refine wpOrd_run rfl rfl (fun K hK => ?_)
          refine wp_store_row 52 (.tmp 2) (.tmp 72) rfl r0 D rfl rfl 52 zero31 HZ9.out hDi hzs hD1 ?_
          refine hK _ _ (fun _ => ⟨(setRow_other _ _ _ _ (fun e => hrm e.symm)).trans HD.out, (cell_setRow_other _ _ _ _ (fun e => hrc e.symm)).trans p1⟩) ?_
          clear hK K
          simp only [List.getElem_toArray, List.getElem_cons_succ, List.getElem_cons_zero, Act.put, List.setIfInBounds_toArray, List.set_cons_zero, List.set_cons_succ]
          iterate 1 (apply wpOrd_pure rfl rfl; apply Exists.intro; refine ⟨fun w' hS => ?_, ?_⟩; (· (have hS2 := hS.2; clear hS; first | (go_simp; done) | (go_simp; with_reducible rfl))); simp only [List.getElem_toArray, List.getElem_cons_succ, List.getElem_cons_zero, Act.put, List.setIfInBounds_toArray, List.set_cons_zero, List.set_cons_succ])
          refine wpOrd_nil ?_
          go_wp2_with fail
          refine ret_row_tmp (.int .i64 code6) rfl r0 52 D (0, 0) _ rfl rfl (setRow_heap _ _ _ _ _ _ HZ9.out) Try.underlying52 rfl hDi rfl HP.out
        · have hb2 : code6 = 0 ∧ bs6 ≠ [] := by
            rw [not_or] at hb
            exact ⟨Decidable.of_not_not hb.1, hb.2⟩
          have HRCH : Hid (rch bs = ((rcloop (rextensions (code6, bs6)).1 { rhF bs with exts := (rextensions (code6, bs6)).1.map (·.1) } (rend (rextensions (code6, bs6)).2)).1, (rcloop (rextensions (code6, bs6)).1 { rhF bs with exts := (rextensions (code6, bs6)).1.map (·.1) } (rend (rextensions (code6, bs6)).2)).2.1)) := Lib.hid (by
            unfold rch
            rw [HS6.out, if_neg hb])
          simp only [hb, decide_false]
          have HB3 := Lib.hid hb2
          obtain ⟨f0, hf0⟩ : ∃ x, x = rhF bs := ⟨_, rfl⟩
          have hsh0 : f0.shares.length = 0 := by rw [hf0]; rfl
          have hps0 : f0.psks.length = 0 := by rw [hf0]; rfl
          rw [← hf0] at HB6 HRCH
          clear hb hb2 p1 hf0
          go_wp2_with fail
          refine (rextensions_ok wc (GK.out _ _ HB6.out) hgc HR6.out).mono ?_
          rintro e w10 ⟨o, rfl, ho, hr, hf⟩
          have hfew := rextensions_few (code6, bs6)
          obtain ⟨E, hE⟩ : ∃ x, x = rextensions (code6, bs6) := ⟨_, rfl⟩
          rw [← hE] at ho hr hfew HRCH
          obtain ⟨L, s10⟩ := E
          simp only at ho hr hfew HRCH
          obtain ⟨tot, htot⟩ : ∃ x, x = rcloop L { f0 with exts := L.map (·.1) } (rend s10) := ⟨_, rfl⟩
          rw [← htot] at HRCH
          have HTOT := Lib.hid htot
          have HFEW := Lib.hid hfew.2
          have hfew1 := hfew.1
          have hcl : c < wc.heap.size := HR6.out.lt
          have hml : m < wc.heap.size := HB6.out.lt (b := 0) rfl
          obtain ⟨B, hBB⟩ : ∃ x, x = wc.heap.size := ⟨_, rfl⟩
          rw [← hBB] at ho hcl hml
          have HE10 := Lib.hid ho
          have HR10 := Lib.hid hr
          have HB10 := Lib.hid (HB6.out.rd1 hf hcW HR6.out hmW (rV_ok hro))
          obtain ⟨xs, hown, _, _⟩ := ho
          obtain ⟨ao, co2, rfl⟩ := row_slice hown
          have hLn : L.length ≤ 65535 := hfew1
          clear hr hf hown hE htot hfew hBB hfew1
          go_wp2_with fail
          refine (end_ok w10 HR10.out).mono ?_
          rintro e w11 ⟨rfl, hr, hf⟩
          have HR11 := Lib.hid hr
          have HB11 := Lib.hid (HB10.out.rd1 (hf.fs (l := [c]) (by simp)) hcW HR10.out hmW (rV_ok hro))
          have HE11 := Lib.hid (HE10.out.kt (hf.fs (l := [c]) (by simp)).kt (by simpa using hcl))
          clear hr hf
          go_wp2_with fail
          refine (types_ok w11 HE11.out (by omega)).mono ?_
          rintro e w12 ⟨o, rfl, ⟨us, hown, hus⟩, hf⟩
          obtain ⟨at12, ct12, rfl⟩ := row_slice hown
          obtain ⟨TY, hTY⟩ : ∃ x, x = L.map (·.1) := ⟨_, rfl⟩
          rw [← hTY] at hown hus ⊢
          have HTY := Lib.hid hTY
          have HR12 := Lib.hid (HR11.out.fs hf (by simp))
          have HB12 := Lib.hid (HB11.out.keep hf)
          have HE12 := Lib.hid (HE11.out.kt hf.kt (by simp))
          have HH12 := Lib.hid (hf.keep m (HB11.out.lt (b := 0) rfl) (by simp))
          have HO12 := Lib.hid hown
          have HU12 := Lib.hid hus
          obtain ⟨u30, q30, _⟩ := HB12.out.at (b := 0) (i := 30) rfl rfl
          have z30 := HB12.out.frozen (b := 0) rfl 30
          clear hown hus hf hTY
          go_upto_region 16 with fail
          have HBs : Hid (Bn W C g m [(m, rV C g rnd { f0 with exts := TY })] none (w12.setCell ⟨m, 30, none⟩ (.slice at12 TY.length ct12))) := Lib.hid (Bn.newrow HB11.out HB12.out HH12.out HO12.out (i := 30) rfl (ShowU TY) HU12.out)
          have HRs := Lib.hid (HR12.out.setOther m 30 (.slice at12 TY.length ct12) hcm)
          have HEs := Lib.hid (HE12.out.kt ((Kt.refl [m] w12).setCell m 30 (.slice at12 TY.length ct12) (by simp)) (by simpa using hml))
          generalize w12.setCell ⟨m, 30, none⟩ (.slice at12 TY.length ct12) = ws at HBs HRs HEs ⊢
          clear q30 z30 HB12 HR12 HE12 HH12 HO12 HU12 HB11 HR11 HE11 HB10 HR10 HE10
          go_wp2_with fail
          go_loopw [86] (fun i wr => ∃ (j : Nat) (F : CH) (st : Nat × List UInt8), i = .int .i64 j ∧ j ≤ L.length ∧ rcloop (L.drop j) F st = tot ∧ F.shares.length ≤ j * 65535 ∧ F.psks.length ≤ j * 65535 ∧ Bn W C g m [(m, rV C g rnd F)] none wr ∧ RAt wr c C g st ∧ ExL wr B C g (.slice ao L.length co2) L) (fun i _ => L.length - (intOf i).toNat)
          case atStart => exact ⟨0, _, _, rfl, Nat.zero_le _, by rw [HTOT.out, HTY.out]; rfl, by show f0.shares.length ≤ _; omega, by show f0.psks.length ≤ _; omega, HBs.out, HRs.out, HEs.out⟩
          case round =>
            obtain ⟨j, F, st, rfl, hj, hrl, hs1, hs2, hb, hr, he⟩ := hrel
            have HRL := Lib.hid hrl
            have HBr := Lib.hid hb
            have HRr := Lib.hid hr
            have HEr := Lib.hid he
            clear hrl hb hr he
            by_cases hjn : j < L.length
            · have hjn2 : ((j : Nat) : Int) < ((L.length : Nat) : Int) := by omega
              obtain ⟨xs, hown, hlt, hxs⟩ := HEr.out
              obtain ⟨p, hp⟩ : ∃ p, ao = some ⟨p, 0, none⟩ := by
                rcases hown.2 with ⟨_, h⟩ | ⟨p, cap', cur, e, _⟩
                · omega
                · simp only [Value.slice.injEq] at e
                  exact ⟨p, e.1⟩
              subst hp
              obtain ⟨x, hx⟩ : ∃ x, x = L[j] := ⟨_, rfl⟩
              obtain ⟨hx1, ux, hx2, hx3⟩ := hxs j x (by rw [hx]; exact List.getElem?_eq_getElem hjn)
              have q0 : wr.cell? ⟨p, j * 2, none⟩ = some (.int .u16 (x.1 : Nat)) := by rw [hown.cellAt (j * 2) (by omega), Nat.mul_comm j 2]; exact hx1
              have q1 : wr.cell? ⟨p, j * 2 + 1, none⟩ = some ux := by rw [hown.cellAt (j * 2 + 1) (by omega), Nat.mul_comm j 2]; exact hx2
              have hkind : x.1 < 65536 := hlt x (by rw [hx]; exact List.getElem_mem hjn)
              have hbl : x.2.length ≤ 65535 := HFEW.out x (by rw [hx]; exact List.getElem_mem hjn)
              have hdr : L.drop j = x :: L.drop (j + 1) := by rw [hx]; exact List.drop_eq_getElem_cons hjn
              have hde : (L.drop (j + 1) = []) ↔ ¬ j < L.length - 1 := by rw [List.drop_eq_nil_iff]; omega
              obtain ⟨RE, hRE⟩ : ∃ y, y = L.drop (j + 1) := ⟨_, rfl⟩
              rw [← hRE] at hdr hde
              have hrl := HRL.out
              rw [hdr] at hrl
              obtain ⟨ax, cx, rfl, _, _⟩ := hx3.len
              have HX3 := Lib.hid hx3
              obtain ⟨kind, bx⟩ := x
              simp only at q0 q1 hkind hbl HX3
              have hrl2 : rcloop RE (rcext kind F (rin st bx)).1 (if kind = 41 ∧ RE ≠ [] then rfail 4 (rdone st (rcext kind F (rin st bx)).2) else rdone st (rcext kind F (rin st bx)).2) = tot := hrl
              have HRL2 := Lib.hid hrl2
              have HRE := Lib.hid hRE
              have HDE := Lib.hid hde
              have hfw := rcext_few kind F (rin st bx)
              have hrle := rin_le st bx
              clear hown hlt hxs hx1 hx2 hx3 hx hdr hde hRE hrl hrl2
              go_wp2_with fail
              obtain ⟨wA, hwA⟩ : ∃ y, y = wr.alloc (Obj.cells #[Value.int .u16 (kind : Nat), Value.slice ax bx.length cx] 85) := ⟨_, rfl⟩
              rw [← hwA]
              have hAs : wA.heap.size = wr.heap.size + 1 := by rw [hwA]; simp
              have hAe : wA.heap[wr.heap.size]? = some (.cells #[.int .u16 (kind : Nat), .slice ax bx.length cx] 85 (0, 0)) := by rw [hwA]; exact heap_alloc_new _ _
              have hAf : Fs [] wr wA := by rw [hwA]; exact (Fs.refl [] wr).push _
              have HAE := Lib.hid hAe
              have HAF := Lib.hid hAf
              have HRA := Lib.hid (HRr.out.fs hAf (by simp))
              have HBA := Lib.hid (HBr.out.keep hAf)
              obtain ⟨eb, heb⟩ : ∃ y, y = wr.heap.size := ⟨_, rfl⟩
              rw [← heb] at HAE hAs ⊢
              clear hwA hAe hAf q0 q1
              refine (within_ok wA HX3.out HRA.out).mono ?_
              rintro e w15 ⟨rfl, hp15, hf15⟩
              have hp15 : RAt w15 wA.heap.size C g (rin st bx) := hp15
              obtain ⟨pp, hpp⟩ : ∃ y, y = wA.heap.size := ⟨_, rfl⟩
              rw [← hpp] at hp15 ⊢
              have hcr := HRr.out.lt
              have hppc : c ≠ pp := by omega
              have hppm : pp ≠ m := by have := HBr.out.lt (b := 0) rfl; omega
              have hppW : W.heap.size ≤ pp := by have := HBr.out.fs.size; omega
              have hppr : wr.heap.size ≤ pp := by omega
              have hepp : eb ≠ pp := by omega
              have hem : eb ≠ m := by have := HBr.out.lt (b := 0) rfl; omega
              have hec : eb ≠ c := by omega
              have HP15 := Lib.hid hp15
              have HR15 := Lib.hid (HRA.out.fs hf15 (by simp))
              have HB15 := Lib.hid (HBA.out.keep hf15)
              have hE15 := (hf15.keep eb (lt_of_heap HAE.out) (by simp)).trans HAE.out
              have e15 : w15.cell? ⟨eb, 0, none⟩ = some (.int .u16 (kind : Nat)) := by rw [cell_of_heap hE15]; rfl
              have HE15 := Lib.hid hE15
              have HK15 : Hid (Kt [pp, c, m] wr w15) := Lib.hid ((HAF.out.trans hf15).kt.mono (by simp))
              clear hp15 hf15 hpp hAs heb hcr hE15
              go_wp2_with fail
              refine (cx_ok (w0 := W) (x := pp) (m := m) (rnd := rnd) (f := F) (st := rin st bx) kind ⟨hppW, hmW, hro, HB15.out, HP15.out, by omega, by omega, by omega⟩).mono ?_
              rintro e w16 ⟨rfl, hb16, hp16, hk16⟩
              have HB16 := Lib.hid hb16
              have HP16 := Lib.hid hp16
              have HR16 := Lib.hid (HR15.out.kt hk16 (by simp; omega))
              have hE16 := (hk16.keep eb (by simp; omega) ⟨_, _, _, HE15.out, .inr rfl⟩).trans HE15.out
              have HE16 := Lib.hid hE16
              have HK16 := Lib.hid (HK15.out.trans (hk16.mono (by simp)))
              obtain ⟨X, hX⟩ : ∃ y, y = rcext kind F (rin st bx) := ⟨_, rfl⟩
              rw [← hX] at HB16 HP16 hfw HRL2
              obtain ⟨F2, sx⟩ := X
              simp only at hfw
              clear hb16 hp16 hk16 e15 hE16 hX HB15 HP15 HR15
              go_wp2_with fail
              refine (done_ok w16 hppc HR16.out HP16.out).mono ?_
              rintro e w17 ⟨rfl, hr17, hf17⟩
              have HR17 := Lib.hid hr17
              have HB17 := Lib.hid (HB16.out.rd2 hf17 hcW HR16.out hppW HP16.out hmW (rV_ok hro))
              have hE17 := (hf17.keep eb (lt_of_heap HE16.out) (by simp; omega)).trans HE16.out
              have e17 : w17.cell? ⟨eb, 0, none⟩ = some (.int .u16 (kind : Nat)) := by rw [cell_of_heap hE17]; rfl
              have HK17 := Lib.hid ((HK16.out.trans (hf17.kt.mono (by simp))).fresh hppr)
              have HE17 := Lib.hid (HEr.out.kt HK17.out (by simp; omega))
              have hmul : (j + 1) * 65535 = j * 65535 + 65535 := by omega
              clear hr17 hf17 hE17 HR16 HP16 HB16 HE16 HK16
              by_cases h41 : kind = 41
              · by_cases hla : j < L.length - 1
                · have HC : Hid (rcloop RE F2 (rfail 4 (rdone st sx)) = tot) := Lib.hid (by
                    have h := HRL2.out
                    rw [if_pos ⟨h41, fun e => (HDE.out.1 e) hla⟩] at h
                    exact h)
                  have k1 : ((j : Nat) : Int) < ((L.length : Nat) : Int) - 1 := by omega
                  subst h41
                  go_wp2_with fail
                  refine (fail_ok 4 _ HR17.out).mono ?_
                  rintro e w18 ⟨rfl, hr, hf⟩
                  have HR18 := Lib.hid hr
                  have HB18 := Lib.hid (HB17.out.rd1 (hf.fs (l := [c]) (by simp)) hcW HR17.out hmW (rV_ok hro))
                  have HE18 := Lib.hid (HE17.out.kt (hf.fs (l := [c]) (by simp)).kt (by simpa using hcl))
                  clear hr hf
                  go_wp2_with fail
                  exact ⟨⟨j + 1, F2, _, by simp, by omega, by rw [← HRE.out]; exact HC.out, by omega, by omega, HB18.out, HR18.out, HE18.out⟩, by simp [intOf]; omega⟩
                · have HC : Hid (rcloop RE F2 (rdone st sx) = tot) := Lib.hid (by
                    have h := HRL2.out
                    rw [if_neg (fun h => h.2 (HDE.out.2 hla))] at h
                    exact h)
                  have k1 : ¬ ((j : Nat) : Int) < ((L.length : Nat) : Int) - 1 := by omega
                  have k2 : decide (((j : Nat) : Int) < ((L.length : Nat) : Int) - 1) = false := by simp; omega
                  have k3 : j + 1 = L.length := by omega
                  have k4 : ((L.length : Nat) : Int) - 1 = (j : Int) := by omega
                  subst h41
                  go_wp2_with fail
                  exact ⟨⟨j + 1, F2, _, by simp, by omega, by rw [← HRE.out]; exact HC.out, by omega, by omega, HB17.out, HR17.out, HE17.out⟩, by simp [intOf]; omega⟩
              · have HC : Hid (rcloop RE F2 (rdone st sx) = tot) := Lib.hid (by
                  have h := HRL2.out
                  rw [if_neg (fun h => h41 h.1)] at h
                  exact h)
                have k1 : ¬ ((kind : Nat) : Int) = 41 := by omega
                have k2 : (((kind : Nat) : Int) == 41) = false := by simp; omega
                go_wp2_with fail
                exact ⟨⟨j + 1, F2, _, by simp, by omega, by rw [← HRE.out]; exact HC.out, by omega, by omega, HB17.out, HR17.out, HE17.out⟩, by simp [intOf]; omega⟩
            · have hjn' : j = L.length := by omega
              subst hjn'
              obtain ⟨code9, bs9⟩ := st
              have hrch : rch bs = (F, code9) := by
                rw [HRCH.out, ← HRL.out, List.drop_length]
                rfl
              obtain ⟨D, TD, hD, hDi, hD1, hz, hzs, hpost⟩ := HEND.out _ _ _ _ HRr.out HBr.out hrch
              obtain ⟨vr, hh, hvr⟩ := HRr.out
              have p1 : wr.cell? ⟨c, 1, none⟩ = some (.int .i64 code9) := by rw [cell_of_heap hh]; rfl
              have HP := Lib.hid hpost
              have HZ9 := Lib.hid hz
              have HD := Lib.hid hD
              clear hz hD hpost hrch hh hvr
              go_wp2_with fail
              refine region_ord [(0, true), (1, true), (2, true), (3, true), (4, true), (5, false), (6, true)] (fun w' => w'.heap[m]? = some (.cells D TD (0, 0)) ∧ w'.cell? ⟨c, 1, none⟩ = some (.int .i64 code9)) mixed (by kernel_rfl) (by kernel_rfl) rfl (by intro c a d v w h; cases d <;> exact h) ⟨HD.out, p1⟩ ?_
              apply wpOrd_pure rfl rfl
              refine ⟨.agg D, fun w' hS => exec_load_row 52 (.tmp 4) rfl m rfl TD D (0, 0) _ hS.1 Try.underlying52 rfl hDi, ?_⟩
              simp only [List.getElem_toArray, List.getElem_cons_succ, List.getElem_cons_zero, Act.put, List.setIfInBounds_toArray, List.set_cons_zero, List.set_cons_succ]
              iterate 4 (apply wpOrd_pure rfl rfl; apply Exists.intro; refine ⟨fun w' hS => ?_, ?_⟩; (· (have hS2 := hS.2; clear hS; first | (go_simp; done) | (go_simp; with_reducible rfl))); simp only [List.getElem_toArray, List.getElem_cons_succ, List.getElem_cons_zero, Act.put, List.setIfInBounds_toArray, List.set_cons_zero, List.set_cons_succ])
              refine wpOrd_run rfl rfl (fun K hK => ?_)
              refine wp_store_row 52 (.tmp 2) (.tmp 115) rfl r0 D rfl rfl 52 zero31 HZ9.out hDi hzs hD1 ?_
              refine hK _ _ (fun _ => ⟨(setRow_other _ _ _ _ (fun e => hrm e.symm)).trans HD.out, (cell_setRow_other _ _ _ _ (fun e => hrc e.symm)).trans p1⟩) ?_
              clear hK K
              simp only [List.getElem_toArray, List.getElem_cons_succ, List.getElem_cons_zero, Act.put, List.setIfInBounds_toArray, List.set_cons_zero, List.set_cons_succ]
              iterate 1 (apply wpOrd_pure rfl rfl; apply Exists.intro; refine ⟨fun w' hS => ?_, ?_⟩; (· (have hS2 := hS.2; clear hS; first | (go_simp; done) | (go_simp; with_reducible rfl))); simp only [List.getElem_toArray, List.getElem_cons_succ, List.getElem_cons_zero, Act.put, List.setIfInBounds_toArray, List.set_cons_zero, List.set_cons_succ])
              refine wpOrd_nil ?_
              go_wp2_with fail
              refine ret_row_tmp (.int .i64 code9) rfl r0 52 D (0, 0) _ rfl rfl (setRow_heap _ _ _ _ _ _ HZ9.out) Try.underlying52 rfl hDi rfl HP.out

end Go.Proofs.Ytopcljikkdlffaa
