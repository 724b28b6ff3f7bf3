/- ClientHello.msg of package tls: its loops, a round each. No statement of the seat is proved here. -/
import Derived.Test.YtopcljikkdlffaaGreatX29
namespace Go.Proofs.YtopcljikkdlffaaGreat
open Go.RowKit

/-- The cells of the message; v21, v24, v26: what is laid after the others. -/
def msA (v : Nat → Value) (v21 v24 v26 : Value) : Array Value := #[.slice none 0 0, v 0, v 1, v 2, v 3, v 4, v 5, v 6, v 7, v 8, v 9, v 10, v 11, v 12, v 13, v 14, v 15, v 16, v 17, v 18, v 19, v21, v 22, v 23, v24, v 26, v26, v 29, .slice none 0 0]

/-- Elements of key shares, laid one behind the other. -/
def UsK (W : World) (mB : Nat) (L : List (Nat × List UInt8)) (us : List Value) : Prop := us.length = 2 * L.length ∧ ∀ (i : Nat) (x : Nat × List UInt8), L[i]? = some x → us[2 * i]? = some (.int .u16 (x.1 : Nat)) ∧ ∃ u, us[2 * i + 1]? = some u ∧ SrcB W mB u x.2
def UsP (W : World) (mB : Nat) (L : List (List UInt8 × Nat)) (us : List Value) : Prop := us.length = 2 * L.length ∧ ∀ (i : Nat) (x : List UInt8 × Nat), L[i]? = some x → (∃ u, us[2 * i]? = some u ∧ SrcB W mB u x.1) ∧ us[2 * i + 1]? = some (.int .u32 (x.2 : Nat))

theorem two_snoc {us : List Value} {n : Nat} {a b : Value} (hl : us.length = 2 * n) : (us ++ [a, b])[2 * n]? = some a ∧ (us ++ [a, b])[2 * n + 1]? = some b ∧ ∀ i, i < 2 * n → (us ++ [a, b])[i]? = us[i]? := by
  refine ⟨?_, ?_, fun i hi => List.getElem?_append_left (by omega)⟩
  · rw [List.getElem?_append_right (by omega), hl, Nat.sub_self]; rfl
  · rw [List.getElem?_append_right (by omega), hl, show 2 * n + 1 - 2 * n = 1 by omega]; rfl

theorem UsK.snoc {W : World} {mB : Nat} {L : List (Nat × List UInt8)} {us : List Value} {x : Nat × List UInt8} {u : Value} (h : UsK W mB L us) (hu : SrcB W mB u x.2) : UsK W mB (L ++ [x]) (us ++ [.int .u16 (x.1 : Nat), u]) := by
  obtain ⟨h1, h2⟩ := h
  obtain ⟨s1, s2, s3⟩ := two_snoc (a := Value.int .u16 (x.1 : Nat)) (b := u) h1
  refine ⟨by simp [h1]; omega, fun i y hi => ?_⟩
  rcases Nat.lt_or_ge i L.length with hlt | hge
  · rw [List.getElem?_append_left hlt] at hi
    obtain ⟨k1, v, k2, k3⟩ := h2 i y hi
    exact ⟨by rw [s3 _ (by omega)]; exact k1, v, by rw [s3 _ (by omega)]; exact k2, k3⟩
  · have e : i = L.length := by have := (List.getElem?_eq_some_iff.1 hi).1; simp at this; omega
    subst e
    rw [List.getElem?_append_right (Nat.le_refl _), Nat.sub_self] at hi
    simp only [List.getElem?_cons_zero, Option.some.injEq] at hi
    subst hi
    exact ⟨s1, u, s2, hu⟩

theorem UsP.snoc {W : World} {mB : Nat} {L : List (List UInt8 × Nat)} {us : List Value} {x : List UInt8 × Nat} {u : Value} (h : UsP W mB L us) (hu : SrcB W mB u x.1) : UsP W mB (L ++ [x]) (us ++ [u, .int .u32 (x.2 : Nat)]) := by
  obtain ⟨h1, h2⟩ := h
  obtain ⟨s1, s2, s3⟩ := two_snoc (a := u) (b := Value.int .u32 (x.2 : Nat)) h1
  refine ⟨by simp [h1]; omega, fun i y hi => ?_⟩
  rcases Nat.lt_or_ge i L.length with hlt | hge
  · rw [List.getElem?_append_left hlt] at hi
    obtain ⟨⟨v, k2, k3⟩, k1⟩ := h2 i y hi
    exact ⟨⟨v, by rw [s3 _ (by omega)]; exact k2, k3⟩, by rw [s3 _ (by omega)]; exact k1⟩
  · have e : i = L.length := by have := (List.getElem?_eq_some_iff.1 hi).1; simp at this; omega
    subst e
    rw [List.getElem?_append_right (Nat.le_refl _), Nat.sub_self] at hi
    simp only [List.getElem?_cons_zero, Option.some.injEq] at hi
    subst hi
    exact ⟨⟨u, s1, hu⟩, s2⟩

/-- The message and its rows while it is laid. -/
structure MsW (W : World) (mB : Nat) (v : Nat → Value) (v21 v24 v26 : Value) (us1 us2 : List Value) (n1 n2 : Nat) (w : World) : Prop where
  bel : Below mB W w
  msg : w.heap[mB]? = some (.cells (msA v v21 v24 v26) 54 (0, 0))
  o1 : w.ownsRow (mB + 1) 56 2 v21 n1 us1
  o2 : w.ownsRow (mB + 1) 59 2 v24 n2 us2

theorem own_at {w : World} {base size n : Nat} {e : TypeId} {v : Value} {us : List Value} (h : w.ownsRow base e size v n us) {k : Nat} (hk : v.ownBlock = some k) : ∃ C fr, w.heap[k]? = some (.cells C e fr) := by
  rcases h.2 with ⟨rfl, _⟩ | ⟨p, cap, cur, rfl, _, hh, _⟩
  · cases hk
  · simp only [Value.ownBlock, Option.some.injEq] at hk
    subst hk
    exact ⟨_, _, hh⟩

theorem below_set {W w2 : World} {mB i : Nat} {v : Value} (h : Below mB W w2) : Below mB W (w2.setCell ⟨mB, i, none⟩ v) := h.setCell (Nat.le_refl _) _

theorem MsW.step1 {W w w2 : World} {mB : Nat} {v : Nat → Value} {v21 v24 v26 x y u' : Value} {us1 us2 : List Value} {n1 n2 : Nat} (h : MsW W mB v v21 v24 v26 us1 us2 n1 n2 w) (hown : w2.ownsRow (mB + 1) 56 2 u' (n1 + 1) (us1 ++ [x, y])) (hsz : w.heap.size ≤ w2.heap.size) (hot : w2.os = w.os ∧ w2.tape = w.tape ∧ w2.output = w.output)
    (hk : ∀ k, k < w.heap.size → (k < mB + 1 ∨ ∃ C T fr, w.heap[k]? = some (.cells C T fr) ∧ T ≠ 56) → w2.heap[k]? = w.heap[k]?) : MsW W mB v u' v24 v26 (us1 ++ [x, y]) us2 (n1 + 1) n2 (w2.setCell ⟨mB, 21, none⟩ u') := by
  have hml := lt_of_heap h.msg
  have hm2 := (hk mB hml (.inl (by omega))).trans h.msg
  have hs : ∀ k, k ≠ mB → (w2.setCell ⟨mB, 21, none⟩ u').heap[k]? = w2.heap[k]? := fun k hn => Below.heap_setCell _ _ _ k hn
  refine ⟨below_set ⟨hot.1.trans h.bel.os, hot.2.1.trans h.bel.tape, hot.2.2.trans h.bel.output, Nat.le_trans h.bel.size hsz, fun k hk' => (hk k (by omega) (.inl (by omega))).trans (h.bel.block k hk')⟩, (heap_set_same hm2).trans rfl, ?_, ?_⟩
  · exact own_kept hown fun k hk' => hs k (by have := (hown.lt k hk').1; omega)
  · refine own_kept h.o2 fun k hk' => ?_
    obtain ⟨C, fr, hh⟩ := own_at h.o2 hk'
    rw [hs k (by have := (h.o2.lt k hk').1; omega), hk k (lt_of_heap hh) (.inr ⟨C, _, fr, hh, by decide⟩)]

theorem MsW.step2 {W w w2 : World} {mB : Nat} {v : Nat → Value} {v21 v24 v26 x y u' : Value} {us1 us2 : List Value} {n1 n2 : Nat} (h : MsW W mB v v21 v24 v26 us1 us2 n1 n2 w) (hown : w2.ownsRow (mB + 1) 59 2 u' (n2 + 1) (us2 ++ [x, y])) (hsz : w.heap.size ≤ w2.heap.size) (hot : w2.os = w.os ∧ w2.tape = w.tape ∧ w2.output = w.output)
    (hk : ∀ k, k < w.heap.size → (k < mB + 1 ∨ ∃ C T fr, w.heap[k]? = some (.cells C T fr) ∧ T ≠ 59) → w2.heap[k]? = w.heap[k]?) : MsW W mB v v21 u' v26 us1 (us2 ++ [x, y]) n1 (n2 + 1) (w2.setCell ⟨mB, 24, none⟩ u') := by
  have hml := lt_of_heap h.msg
  have hm2 := (hk mB hml (.inl (by omega))).trans h.msg
  have hs : ∀ k, k ≠ mB → (w2.setCell ⟨mB, 24, none⟩ u').heap[k]? = w2.heap[k]? := fun k hn => Below.heap_setCell _ _ _ k hn
  refine ⟨below_set ⟨hot.1.trans h.bel.os, hot.2.1.trans h.bel.tape, hot.2.2.trans h.bel.output, Nat.le_trans h.bel.size hsz, fun k hk' => (hk k (by omega) (.inl (by omega))).trans (h.bel.block k hk')⟩, (heap_set_same hm2).trans rfl, ?_, ?_⟩
  · refine own_kept h.o1 fun k hk' => ?_
    obtain ⟨C, fr, hh⟩ := own_at h.o1 hk'
    rw [hs k (by have := (h.o1.lt k hk').1; omega), hk k (lt_of_heap hh) (.inr ⟨C, _, fr, hh, by decide⟩)]
  · exact own_kept hown fun k hk' => hs k (by have := (hown.lt k hk').1; omega)

def MsSl (p mB : Nat) (a : Act) : Prop := a.defers = [] ∧ a.tmps.size = 118 ∧ a.tmps[1]? = some (.pointer (some ⟨p, 0, none⟩)) ∧ a.tmps[3]? = some (.pointer (some ⟨mB, 0, none⟩))

/-- What stands ahead of a round of loop 1. -/
def MsI1 (W : World) (p mB : Nat) (v : Nat → Value) (v24 v26 : Value) (us2 : List Value) (n2 : Nat) (f : CH) (aG : Option Addr) (cG : Nat) (a : Act) (w : World) : Prop :=
  ∃ (j : Nat) (v21 : Value) (us : List Value), j ≤ f.shares.length ∧ MsSl p mB a ∧ (a.tmps[59]? = some (.slice aG f.shares.length cG) ∧ a.tmps[60]? = some (.int .i64 (f.shares.length : Nat)) ∧ a.tmps[61]? = some (.int .i64 (j : Nat))) ∧ MsW W mB v v21 v24 v26 us us2 j n2 w ∧ UsK W mB (f.shares.take j) us

set_option maxRecDepth 100000 in
set_option maxHeartbeats 8000000 in
theorem ms_round1 {W w : World} {p mB : Nat} {v : Nat → Value} {v24 v26 : Value} {us2 : List Value} {n2 : Nat} {f : CH} {aG aD : Option Addr} {cG cD : Nat} {Q0 : Exit → Act → World → Prop} {a : Act} (hlen : f.shares.length ≤ 2147483647) (hmB : mB = W.heap.size) (hp : p < mB)
    (hcell : W.cell? ⟨p, 21, none⟩ = some (.slice aD f.shares.length cD)) (hG : RowS W mB 23 (.slice aG f.shares.length cG) ((f.shares.map (·.1)).map fun n => Value.int .u16 (n : Nat))) (hD : SrcL W mB (.slice aD f.shares.length cD) (f.shares.map (·.2)))
    (hexit : ∀ a' w', MsSl p mB a' → (∃ (v21 : Value) (us : List Value), MsW W mB v v21 v24 v26 us us2 f.shares.length n2 w' ∧ UsK W mB f.shares us) → Q0 (.exit 0) a' w')
    (hI : MsI1 W p mB v v24 v26 us2 n2 f aG cG a w) :
    Code.wp Tryz.prog (msBody 0) (Exit.then (fun a' w'' => MsI1 W p mB v v24 v26 us2 n2 f aG cG a' w'' ∧ f.shares.length - unIx 61 a' < f.shares.length - unIx 61 a) Q0) a w := by
  obtain ⟨j, v21, us, hj, ⟨hdf, hsz, h1, h3⟩, ⟨h59, h60, h61⟩, hw, hus⟩ := hI
  obtain ⟨s, dl⟩ := a
  simp only at hdf hsz h1 h3 h59 h60 h61
  subst hdf
  obtain ⟨z, rfl⟩ := arr118 s hsz
  have e1 : z 1 = .pointer (some ⟨p, 0, none⟩) := Option.some.inj h1
  have e3 : z 3 = .pointer (some ⟨mB, 0, none⟩) := Option.some.inj h3
  have e59 : z 59 = .slice aG f.shares.length cG := Option.some.inj h59
  have e60 : z 60 = .int .i64 (f.shares.length : Nat) := Option.some.inj h60
  have e61 : z 61 = .int .i64 (j : Nat) := Option.some.inj h61
  rw [e1, e3, e59, e60, e61]
  clear hsz h1 h3 h59 h60 h61 e1 e3 e59 e60 e61
  have HEX := Lib.hid hexit
  have HG := Lib.hid hG
  have HD := Lib.hid hD
  have HC := Lib.hid hcell
  have HMB := Lib.hid hmB
  have HWS := Lib.hid hw
  have HUS := Lib.hid hus
  clear hexit hG hD hcell hmB
  conv => arg 2; whnf
  by_cases hjn : j < f.shares.length
  · have hjn2 : ((j : Nat) : Int) < ((f.shares.length : Nat) : Int) := by omega
    obtain ⟨hB, aGe⟩ : ∃ b, aG = some ⟨b, 0, none⟩ := by
      rcases HG.out with ⟨e, e2⟩ | ⟨p', _, _, e, _⟩
      · have := congrArg List.length e2
        simp at this
        rw [this] at hjn
        simp at hjn
      · simp only [Value.slice.injEq] at e
        exact ⟨p', e.1⟩
    subst aGe
    obtain ⟨dB, aDe⟩ : ∃ b, aD = some ⟨b, 0, none⟩ := by
      rcases HD.out with ⟨e, e2⟩ | ⟨p', _, _, e, _⟩
      · have := congrArg List.length e2
        simp at this
        rw [this] at hjn
        simp at hjn
      · simp only [Value.slice.injEq] at e
        exact ⟨p', e.1⟩
    subst aDe
    have hhB : hB < mB := by
      rcases HG.out with ⟨e, _⟩ | ⟨p', _, _, e, hp', _⟩
      · cases e
      · simp only [Value.slice.injEq, Option.some.injEq, Addr.mk.injEq, and_true] at e
        omega
    have hdB : dB < mB := by
      rcases HD.out with ⟨e, _⟩ | ⟨p', _, _, e, hp', _⟩
      · cases e
      · simp only [Value.slice.injEq, Option.some.injEq, Addr.mk.injEq, and_true] at e
        omega
    obtain ⟨x, hx⟩ : ∃ x, x = f.shares[j] := ⟨_, rfl⟩
    have hG : w.cell? ⟨hB, j, none⟩ = some (.int .u16 (x.1 : Nat)) := (RowS.keep HG.out (Nat.le_refl _) hw.bel.block).at (by simp [hjn, hx])
    obtain ⟨u, hu, hsrc⟩ := (SrcL.keep HD.out (Nat.le_refl _) hw.bel.block).at (j := j) (by simpa using hjn)
    have hsrcW : SrcB W mB u x.2 := by
      obtain ⟨u', hu', hs'⟩ := SrcL.at HD.out (j := j) (by simpa using hjn)
      have e : u' = u := by
        have h1 := (World.cell?_of_block (hw.bel.block dB hdB) : w.cell? ⟨dB, j, none⟩ = W.cell? ⟨dB, j, none⟩)
        rw [hu, hu'] at h1
        exact (Option.some.inj h1).symm
      rw [← e]
      rw [List.getElem_map, ← hx] at hs'
      exact hs'
    obtain ⟨ax, cx, rfl⟩ := hsrcW.len
    have HSW := Lib.hid hsrcW
    have HT : Hid (f.shares.take j ++ [x] = f.shares.take (j + 1)) := Lib.hid (by rw [List.take_succ_eq_append_getElem hjn, hx])
    have hbel := hw.bel.size
    have hmbl : mB + 1 ≤ w.heap.size := lt_of_heap hw.msg
    obtain ⟨ao, co, hve⟩ := row_slice hw.o1
    subst hve
    have q1 : w.cell? ⟨mB, 21, none⟩ = some (.slice ao j co) := by rw [cell_of_heap hw.msg]; rfl
    have q2 : w.cell? ⟨p, 21, none⟩ = some (.slice (some ⟨dB, 0, none⟩) f.shares.length cD) := (World.cell?_of_block (hw.bel.block p hp)).trans HC.out
    have Q1 := Lib.hid q1
    have Q2 := Lib.hid q2
    have Q3 := Lib.hid hu
    have hml := lt_of_heap hw.msg
    clear hx hsrc hsrcW hus hw q1 q2
    go_upto_region 5 with fail
    refine Code.wp_mono (Q := MsPost1 (mB + 1) mB j us (.int .u16 (x.1 : Nat)) (.slice ax x.2.length cx) w _) ?_ (msr_1 rfl rfl rfl rfl rfl HWS.out.msg Q1.out Q2.out hjn Q3.out (by omega) (by omega) HWS.out.o1 (by omega) rfl rfl (by omega) ⟨_, rfl⟩ ⟨_, _, _, rfl⟩)
    rintro e a' w' ⟨rfl, hdf, hsz, ⟨k1, k3, k59, k60, k61⟩, v', w2, rfl, _, hown, hs2, hot, hk⟩
    obtain ⟨s, dl⟩ := a'
    simp only at hdf hsz k1 k3 k59 k60 k61
    subst hdf
    obtain ⟨y, rfl⟩ := arr118 s hsz
    have e1 : y 1 = .pointer (some ⟨p, 0, none⟩) := Option.some.inj k1
    have e3 : y 3 = .pointer (some ⟨mB, 0, none⟩) := Option.some.inj k3
    have e59 : y 59 = .slice (some ⟨hB, 0, none⟩) f.shares.length cG := Option.some.inj k59
    have e60 : y 60 = .int .i64 (f.shares.length : Nat) := Option.some.inj k60
    have e61 : y 61 = .int .i64 (j : Nat) := Option.some.inj k61
    rw [e1, e3, e59, e60, e61]
    have HW2 := Lib.hid (HWS.out.step1 hown hs2 hot hk)
    obtain ⟨w3, hw3⟩ : ∃ w3, w3 = w2.setCell ⟨mB, 21, none⟩ v' := ⟨_, rfl⟩
    rw [← hw3] at HW2 ⊢
    clear hsz k1 k3 k59 k60 k61 e1 e3 e59 e60 e61 hown hs2 hot hk hw3 hu hG
    go_wp2_with fail
    refine ⟨⟨j + 1, _, _, by omega, ⟨rfl, rfl, rfl, rfl⟩, ⟨rfl, rfl, by simp⟩, HW2.out, ?_⟩, ?_⟩
    · rw [← HT.out]; exact HUS.out.snoc HSW.out
    · simp [unIx, intOf]; omega
  · obtain rfl : j = f.shares.length := by omega
    have hjn2 : ¬ ((f.shares.length : Nat) : Int) < ((f.shares.length : Nat) : Int) := by omega
    rw [List.take_length] at HUS
    clear hw hus
    go_wp2_with fail
    exact HEX.out _ _ ⟨rfl, rfl, rfl, rfl⟩ ⟨_, _, HWS.out, HUS.out⟩

/-- What stands ahead of a round of loop 2. -/
def MsI2 (W : World) (p mB : Nat) (v : Nat → Value) (v21 v26 : Value) (us1 : List Value) (n1 : Nat) (f : CH) (aG : Option Addr) (cG : Nat) (a : Act) (w : World) : Prop :=
  ∃ (j : Nat) (v24 : Value) (us : List Value), j ≤ f.psks.length ∧ MsSl p mB a ∧ (a.tmps[84]? = some (.slice aG f.psks.length cG) ∧ a.tmps[85]? = some (.int .i64 (f.psks.length : Nat)) ∧ a.tmps[86]? = some (.int .i64 (j : Nat))) ∧ MsW W mB v v21 v24 v26 us1 us n1 j w ∧ UsP W mB (f.psks.take j) us

set_option maxRecDepth 100000 in
set_option maxHeartbeats 8000000 in
theorem ms_round2 {W w : World} {p mB : Nat} {v : Nat → Value} {v21 v26 : Value} {us1 : List Value} {n1 : Nat} {f : CH} {aG aD : Option Addr} {cG cD : Nat} {Q0 : Exit → Act → World → Prop} {a : Act} (hlen : f.psks.length ≤ 2147483647) (hmB : mB = W.heap.size) (hp : p < mB)
    (hcell : W.cell? ⟨p, 25, none⟩ = some (.slice aD f.psks.length cD)) (hG : SrcL W mB (.slice aG f.psks.length cG) (f.psks.map (·.1))) (hD : RowS W mB 57 (.slice aD f.psks.length cD) ((f.psks.map (·.2)).map fun n => Value.int .u32 (n : Nat)))
    (hexit : ∀ a' w', MsSl p mB a' → (∃ (v24 : Value) (us : List Value), MsW W mB v v21 v24 v26 us1 us n1 f.psks.length w' ∧ UsP W mB f.psks us) → Q0 (.exit 2) a' w')
    (hI : MsI2 W p mB v v21 v26 us1 n1 f aG cG a w) :
    Code.wp Tryz.prog (msBody 2) (Exit.then (fun a' w'' => MsI2 W p mB v v21 v26 us1 n1 f aG cG a' w'' ∧ f.psks.length - unIx 86 a' < f.psks.length - unIx 86 a) Q0) a w := by
  obtain ⟨j, v24, us, hj, ⟨hdf, hsz, h1, h3⟩, ⟨h59, h60, h61⟩, hw, hus⟩ := hI
  obtain ⟨s, dl⟩ := a
  simp only at hdf hsz h1 h3 h59 h60 h61
  subst hdf
  obtain ⟨z, rfl⟩ := arr118 s hsz
  have e1 : z 1 = .pointer (some ⟨p, 0, none⟩) := Option.some.inj h1
  have e3 : z 3 = .pointer (some ⟨mB, 0, none⟩) := Option.some.inj h3
  have e59 : z 84 = .slice aG f.psks.length cG := Option.some.inj h59
  have e60 : z 85 = .int .i64 (f.psks.length : Nat) := Option.some.inj h60
  have e61 : z 86 = .int .i64 (j : Nat) := Option.some.inj h61
  rw [e1, e3, e59, e60, e61]
  clear hsz h1 h3 h59 h60 h61 e1 e3 e59 e60 e61
  have HEX := Lib.hid hexit
  have HG := Lib.hid hG
  have HD := Lib.hid hD
  have HC := Lib.hid hcell
  have HMB := Lib.hid hmB
  have HWS := Lib.hid hw
  have HUS := Lib.hid hus
  clear hexit hG hD hcell hmB
  conv => arg 2; whnf
  by_cases hjn : j < f.psks.length
  · have hjn2 : ((j : Nat) : Int) < ((f.psks.length : Nat) : Int) := by omega
    obtain ⟨hB, aGe⟩ : ∃ b, aG = some ⟨b, 0, none⟩ := by
      rcases HG.out with ⟨e, e2⟩ | ⟨p', _, _, e, _⟩
      · have := congrArg List.length e2
        simp at this
        rw [this] at hjn
        simp at hjn
      · simp only [Value.slice.injEq] at e
        exact ⟨p', e.1⟩
    subst aGe
    obtain ⟨dB, aDe⟩ : ∃ b, aD = some ⟨b, 0, none⟩ := by
      rcases HD.out with ⟨e, e2⟩ | ⟨p', _, _, e, _⟩
      · have := congrArg List.length e2
        simp at this
        rw [this] at hjn
        simp at hjn
      · simp only [Value.slice.injEq] at e
        exact ⟨p', e.1⟩
    subst aDe
    have hhB : hB < mB := by
      rcases HG.out with ⟨e, _⟩ | ⟨p', _, _, e, hp', _⟩
      · cases e
      · simp only [Value.slice.injEq, Option.some.injEq, Addr.mk.injEq, and_true] at e
        omega
    have hdB : dB < mB := by
      rcases HD.out with ⟨e, _⟩ | ⟨p', _, _, e, hp', _⟩
      · cases e
      · simp only [Value.slice.injEq, Option.some.injEq, Addr.mk.injEq, and_true] at e
        omega
    obtain ⟨x, hx⟩ : ∃ x, x = f.psks[j] := ⟨_, rfl⟩
    have hG : w.cell? ⟨dB, j, none⟩ = some (.int .u32 (x.2 : Nat)) := (RowS.keep HD.out (Nat.le_refl _) hw.bel.block).at (by simp [hjn, hx])
    obtain ⟨u, hu, hsrc⟩ := (SrcL.keep HG.out (Nat.le_refl _) hw.bel.block).at (j := j) (by simpa using hjn)
    have hsrcW : SrcB W mB u x.1 := by
      obtain ⟨u', hu', hs'⟩ := SrcL.at HG.out (j := j) (by simpa using hjn)
      have e : u' = u := by
        have h1 := (World.cell?_of_block (hw.bel.block hB hhB) : w.cell? ⟨hB, j, none⟩ = W.cell? ⟨hB, j, none⟩)
        rw [hu, hu'] at h1
        exact (Option.some.inj h1).symm
      rw [← e]
      rw [List.getElem_map, ← hx] at hs'
      exact hs'
    obtain ⟨ax, cx, rfl⟩ := hsrcW.len
    have HSW := Lib.hid hsrcW
    have HT : Hid (f.psks.take j ++ [x] = f.psks.take (j + 1)) := Lib.hid (by rw [List.take_succ_eq_append_getElem hjn, hx])
    have hbel := hw.bel.size
    have hmbl : mB + 1 ≤ w.heap.size := lt_of_heap hw.msg
    obtain ⟨ao, co, hve⟩ := row_slice hw.o2
    subst hve
    have q1 : w.cell? ⟨mB, 24, none⟩ = some (.slice ao j co) := by rw [cell_of_heap hw.msg]; rfl
    have q2 : w.cell? ⟨p, 25, none⟩ = some (.slice (some ⟨dB, 0, none⟩) f.psks.length cD) := (World.cell?_of_block (hw.bel.block p hp)).trans HC.out
    have Q1 := Lib.hid q1
    have Q2 := Lib.hid q2
    have Q3 := Lib.hid hG
    have hml := lt_of_heap hw.msg
    clear hx hsrc hsrcW hus hw q1 q2
    go_upto_region 10 with fail
    refine Code.wp_mono (Q := MsPost2 (mB + 1) mB j us (.slice ax x.1.length cx) (.int .u32 (x.2 : Nat)) w _) ?_ (msr_2 rfl rfl rfl rfl rfl HWS.out.msg Q1.out Q2.out hjn Q3.out (by omega) (by omega) HWS.out.o2 (by omega) rfl rfl (by omega) ⟨_, _, _, rfl⟩ ⟨_, rfl⟩)
    rintro e a' w' ⟨rfl, hdf, hsz, ⟨k1, k3, k59, k60, k61⟩, v', w2, rfl, _, hown, hs2, hot, hk⟩
    obtain ⟨s, dl⟩ := a'
    simp only at hdf hsz k1 k3 k59 k60 k61
    subst hdf
    obtain ⟨y, rfl⟩ := arr118 s hsz
    have e1 : y 1 = .pointer (some ⟨p, 0, none⟩) := Option.some.inj k1
    have e3 : y 3 = .pointer (some ⟨mB, 0, none⟩) := Option.some.inj k3
    have e59 : y 84 = .slice (some ⟨hB, 0, none⟩) f.psks.length cG := Option.some.inj k59
    have e60 : y 85 = .int .i64 (f.psks.length : Nat) := Option.some.inj k60
    have e61 : y 86 = .int .i64 (j : Nat) := Option.some.inj k61
    rw [e1, e3, e59, e60, e61]
    have HW2 := Lib.hid (HWS.out.step2 hown hs2 hot hk)
    obtain ⟨w3, hw3⟩ : ∃ w3, w3 = w2.setCell ⟨mB, 24, none⟩ v' := ⟨_, rfl⟩
    rw [← hw3] at HW2 ⊢
    clear hsz k1 k3 k59 k60 k61 e1 e3 e59 e60 e61 hown hs2 hot hk hw3 hu hG
    go_wp2_with fail
    refine ⟨⟨j + 1, _, _, by omega, ⟨rfl, rfl, rfl, rfl⟩, ⟨rfl, rfl, by simp⟩, HW2.out, ?_⟩, ?_⟩
    · rw [← HT.out]; exact HUS.out.snoc HSW.out
    · simp [unIx, intOf]; omega
  · obtain rfl : j = f.psks.length := by omega
    have hjn2 : ¬ ((f.psks.length : Nat) : Int) < ((f.psks.length : Nat) : Int) := by omega
    rw [List.take_length] at HUS
    clear hw hus
    go_wp2_with fail
    exact HEX.out _ _ ⟨rfl, rfl, rfl, rfl⟩ ⟨_, _, HWS.out, HUS.out⟩

end Go.Proofs.YtopcljikkdlffaaGreat
