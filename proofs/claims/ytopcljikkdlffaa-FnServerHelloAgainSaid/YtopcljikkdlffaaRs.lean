/- The reference's reader: what its methods leave. No statement of the seat is proved here. -/
import Derived.Test.YtopcljikkdlffaaCj
namespace Go.Proofs.Ytopcljikkdlffaa
open Go.RowKit

/-- In the row of cells C of block g the slice v shows bs; or v is nil and bs is empty. -/
def VN (C : Array Value) (g : Nat) (v : Value) (bs : List UInt8) : Prop := (v = .slice none 0 0 ∧ bs = []) ∨ View C g v bs

/-- A reader in block c: what was found so far, and what is left. -/
def RAt (w : World) (c : Nat) (C : Array Value) (g : Nat) (st : Nat × List UInt8) : Prop :=
  ∃ v, w.heap[c]? = some (.cells #[v, .int .i64 st.1] 80 (0, 0)) ∧ VN C g v st.2

/-- The reader fails. -/
def rfail (k : Nat) (st : Nat × List UInt8) : Nat × List UInt8 := (if st.1 = 0 then k else st.1, [])

/-- A number of k bytes. -/
def rnum (k : Nat) (st : Nat × List UInt8) : Nat × (Nat × List UInt8) := if st.2.length < k then (0, rfail 3 st) else (be (st.2.take k), (st.1, st.2.drop k))

/-- A vector. -/
def rvec (k low high : Nat) (st : Nat × List UInt8) : List UInt8 × (Nat × List UInt8) :=
  if (rnum k st).2.1 ≠ 0 then ([], (rnum k st).2)
  else if (rnum k st).2.2.length < (rnum k st).1 then ([], (3, []))
  else if (rnum k st).1 < low ∨ high < (rnum k st).1 then ((rnum k st).2.2.take (rnum k st).1, (2, []))
  else ((rnum k st).2.2.take (rnum k st).1, (0, (rnum k st).2.2.drop (rnum k st).1))

theorem Fm.refl (m : Nat) (w : World) : Fm m w w := ⟨rfl, rfl, rfl, Nat.le_refl _, fun _ _ _ => rfl⟩
theorem Fm.trans {m : Nat} {a b d : World} (h : Fm m a b) (k : Fm m b d) : Fm m a d :=
  ⟨k.os.trans h.os, k.tape.trans h.tape, k.output.trans h.output, Nat.le_trans h.size k.size, fun i hi hm => (k.keep i (Nat.lt_of_lt_of_le hi h.size) hm).trans (h.keep i hi hm)⟩
theorem Fm.setCell {m : Nat} {a w : World} (h : Fm m a w) (o : Nat) (u : Value) : Fm m a (w.setCell ⟨m, o, none⟩ u) :=
  h.trans ⟨rfl, rfl, rfl, by simp [World.setCell], fun _ _ hc => Below.heap_setCell _ _ _ _ hc⟩
theorem Fm.alloc {m : Nat} {a w : World} (h : Fm m a w) (o : Obj) : Fm m a (w.alloc o) :=
  h.trans ⟨rfl, rfl, rfl, by simp, fun _ hk _ => Below.heap_alloc _ _ _ hk⟩

theorem VN.len {C : Array Value} {g : Nat} {v : Value} {bs : List UInt8} (h : VN C g v bs) : ∃ a cap, v = .slice a bs.length cap ∧ bs.length ≤ cap ∧ cap ≤ maxLen := by
  rcases h with ⟨rfl, rfl⟩ | ⟨off, cap, rfl, h1, h2, _⟩
  · exact ⟨none, 0, rfl, Nat.le_refl _, Nat.zero_le _⟩
  · exact ⟨_, cap, rfl, h1, h2⟩

set_option maxRecDepth 100000 in
set_option maxHeartbeats 400000 in
theorem fail_ok {c g : Nat} {C : Array Value} {st : Nat × List UInt8} (k : Nat) (w : World) (hR : RAt w c C g st) :
    Calls Try.prog 52 #[.pointer (some ⟨c, 0, none⟩), .int .i64 k] w fun e w' => e = .returned (.tuple #[]) ∧ RAt w' c C g (rfail k st) ∧ Fm c w w' := by
  obtain ⟨v, hh, hv⟩ := hR
  obtain ⟨code, bs⟩ := st
  obtain ⟨a, cap, rfl, _, _⟩ := hv.len
  have f0 : w.cell? ⟨c, 0, none⟩ = some (.slice a bs.length cap) := by rw [cell_of_heap hh]; rfl
  have f1 : w.cell? ⟨c, 1, none⟩ = some (.int .i64 code) := by rw [cell_of_heap hh]; rfl
  have hfz : ∀ o, w.frozen? ⟨c, o, none⟩ = false := fun o => frozen_of_heap hh
  have HH := Lib.hid hh
  clear hh hv
  by_cases h0 : code = 0
  · subst h0
    go_enter Try.func52, Try.ntmps52
    go_wp2_with fail
    go_end0
    refine ⟨rfl, ⟨.slice none 0 0, ?_, .inl ⟨rfl, rfl⟩⟩, ((Fm.refl c w).setCell 1 _).setCell 0 _⟩
    exact (heap_set_same (heap_set_same HH.out)).trans rfl
  · have h1 : ¬ ((code : Nat) : Int) = 0 := by omega
    go_enter Try.func52, Try.ntmps52
    go_wp2_with fail
    go_end0
    refine ⟨rfl, ⟨.slice none 0 0, ?_, .inl ⟨rfl, rfl⟩⟩, (Fm.refl c w).setCell 0 _⟩
    rw [heap_set_same HH.out]
    simp [rfail, h0]

set_option maxRecDepth 100000 in
set_option maxHeartbeats 1000000 in
theorem take_yes {c g : Nat} {C : Array Value} {code : Nat} {bs : List UInt8} (n : Nat) (w : World) (hn : n ≤ bs.length) (hR : RAt w c C g (code, bs)) :
    Calls Try.prog 50 #[.pointer (some ⟨c, 0, none⟩), .int .i64 n] w fun e w' => ∃ u, e = .returned u ∧ VN C g u (bs.take n) ∧ RAt w' c C g (code, bs.drop n) ∧ Fm c w w' := by
  obtain ⟨v, hh, hv⟩ := hR
  have hfz : ∀ o, w.frozen? ⟨c, o, none⟩ = false := fun o => frozen_of_heap hh
  rcases hv with ⟨rfl, e⟩ | hV
  · simp only at e
    subst e
    obtain rfl : n = 0 := by simpa using hn
    have f0 : w.cell? ⟨c, 0, none⟩ = some (.slice none 0 0) := by rw [cell_of_heap hh]; rfl
    have HH := Lib.hid hh
    clear hh
    go_enter Try.func50, Try.ntmps50
    go_wp2_with fail
    go_ret
    exact ⟨_, rfl, .inl ⟨rfl, rfl⟩, ⟨.slice none 0 0, (heap_set_same HH.out).trans rfl, .inl ⟨rfl, rfl⟩⟩, (Fm.refl c w).setCell 0 _⟩
  · obtain ⟨off, cap, rfl, hcl, hcm, hcc⟩ := hV
    simp only at hcl hcc
    have f0 : w.cell? ⟨c, 0, none⟩ = some (.slice (some ⟨g, off, none⟩) bs.length cap) := by rw [cell_of_heap hh]; rfl
    have HH := Lib.hid hh
    have hcm' : cap ≤ 9223372036854775807 := hcm
    have hnc : (n : Int) ≤ (cap : Int) := by omega
    have hnl : ¬ ((bs.length : Nat) : Int) < (n : Int) := by omega
    have V1 : Hid (View C g (.slice (some ⟨g, off, none⟩) n n) (bs.take n)) := by
      have e : (bs.take n).length = n := by simp; omega
      refine ⟨off, n, by rw [e], by omega, by omega, fun i hi => ?_⟩
      rw [e] at hi
      rw [hcc i (by omega)]
      simp [hi]
    have V2 := Lib.hid (View.drop (db := g) n hn hcl hcm hcc)
    have V3 : Hid (n = bs.length → View C g (.slice (some ⟨g, off, none⟩) 0 0) (bs.drop n)) := fun h => View.dropAll n h
    clear hh hcc hcm
    by_cases hcap : n = cap
    · subst hcap
      go_enter Try.func50, Try.ntmps50
      go_wp2_with fail
      go_ret
      exact ⟨_, rfl, .inr V1.out, ⟨_, (heap_set_same HH.out).trans rfl, .inr (V3.out (by omega))⟩, (Fm.refl c w).setCell 0 _⟩
    · go_enter Try.func50, Try.ntmps50
      go_wp2_with fail
      go_ret
      exact ⟨_, rfl, .inr V1.out, ⟨_, (heap_set_same HH.out).trans rfl, .inr V2.out⟩, (Fm.refl c w).setCell 0 _⟩

set_option maxRecDepth 100000 in
set_option maxHeartbeats 1000000 in
theorem take_no {c g : Nat} {C : Array Value} {st : Nat × List UInt8} (n : Nat) (w : World) (hn : st.2.length < n) (hn2 : n ≤ 16777216) (hR : RAt w c C g st) :
    Calls Try.prog 50 #[.pointer (some ⟨c, 0, none⟩), .int .i64 n] w fun e w' => ∃ h, e = .returned (.slice (some ⟨h, 0, none⟩) n n) ∧ w'.heap[h]? = some (.cells (List.replicate n (Value.int .u8 0)).toArray 5 (0, 0)) ∧ w.heap.size ≤ h ∧ RAt w' c C g (rfail 3 st) ∧ Fm c w w' := by
  have HR := Lib.hid hR
  obtain ⟨v, hh, hv⟩ := hR
  obtain ⟨code, bs⟩ := st
  obtain ⟨a, cap, rfl, hcl, hcm⟩ := hv.len
  simp only at hn hcl
  have f0 : w.cell? ⟨c, 0, none⟩ = some (.slice a bs.length cap) := by rw [cell_of_heap hh]; rfl
  have hc := lt_of_heap hh
  have hl : ((bs.length : Nat) : Int) < (n : Int) := by omega
  clear hh hv
  go_enter Try.func50, Try.ntmps50
  go_wp2_with fail
  refine (fail_ok 3 w HR.out).mono ?_
  rintro e w1 ⟨rfl, hR1, hF1⟩
  have HR1 := Lib.hid hR1
  have HF1 := Lib.hid hF1
  have hmk := make_row w1 n (by omega)
  obtain ⟨Z, hZ⟩ : ∃ Z, Z = (List.replicate n (Value.int .u8 0)).toArray := ⟨_, rfl⟩
  rw [← hZ] at hmk
  have HZ := Lib.hid hZ
  clear hR1 hF1 hZ
  go_wp2_with fail
  go_ret
  refine ⟨w1.heap.size, rfl, by rw [← HZ.out]; exact heap_alloc_new _ _, HF1.out.size, ?_, HF1.out.alloc _⟩
  obtain ⟨v1, hh1, hv1⟩ := HR1.out
  exact ⟨v1, (Below.heap_alloc _ _ _ (lt_of_heap hh1)).trans hh1, hv1⟩

theorem vn_src {w : World} {C : Array Value} {g : Nat} {v : Value} {s : List UInt8} {T : TypeId} {fr : Nat × Nat} (h : VN C g v s) (hh : w.heap[g]? = some (.cells C T fr)) : SrcB w w.heap.size v s := by
  rcases h with h | h
  · exact .inl h
  · exact view_src h hh

theorem be_zeros (n : Nat) : be (List.replicate n 0) = 0 := by
  induction n with
  | zero => rfl
  | succ n ih => rw [List.replicate_succ, be_cons, ih]; simp

/-- So many bytes are taken; zeros where there are too few. -/
theorem take_any {c g : Nat} {C : Array Value} {T : TypeId} {fr : Nat × Nat} {st : Nat × List UInt8} (n : Nat) (w : World) (hn2 : n ≤ 16777216) (hg : w.heap[g]? = some (.cells C T fr)) (hgc : g ≠ c) (hR : RAt w c C g st) :
    Calls Try.prog 50 #[.pointer (some ⟨c, 0, none⟩), .int .i64 n] w fun e w' => ∃ u bx, e = .returned u ∧ bx.length = n ∧ SrcB w' w'.heap.size u bx ∧ be bx = (rnum n st).1 ∧ RAt w' c C g (rnum n st).2 ∧ Fm c w w' := by
  obtain ⟨code, bs⟩ := st
  unfold rnum
  by_cases h : bs.length < n
  · refine (take_no n w h hn2 hR).mono ?_
    rintro e w' ⟨hb, rfl, hh, hs, hr, hf⟩
    refine ⟨_, List.replicate n 0, rfl, by simp, .inr ⟨_, n, by rw [List.length_replicate], fun _ => lt_of_heap hh, fun j u hu => ?_⟩, ?_, ?_, hf⟩
    · rw [add_plain, Nat.zero_add, cell_of_heap hh, List.getElem?_toArray]
      rw [List.map_replicate] at hu
      exact hu
    · rw [if_pos h, be_zeros]
    · rw [if_pos h]; exact hr
  · refine (take_yes n w (by omega) hR).mono ?_
    rintro e w' ⟨u, rfl, hv, hr, hf⟩
    have hg' : w'.heap[g]? = some (.cells C T fr) := (hf.keep g (lt_of_heap hg) hgc).trans hg
    refine ⟨u, bs.take n, rfl, by simp; omega, vn_src hv hg', ?_, ?_, hf⟩
    · rw [if_neg h]
    · rw [if_neg h]; exact hr

theorem i64_step (n : Nat) (b : UInt8) (h : n < 16777216) : bits BinOp.or IntKind.i64 ((n : Int) * 256) ((b.toNat : Nat) : Int) = ((n * 256 + b.toNat : Nat) : Int) := by
  have hb := b.toNat_lt
  rw [show ((n : Int) * 256) = ((n * 256 : Nat) : Int) by omega, i64_or_nat _ _ (by omega) (by omega), or_mul _ n 8 256 (by decide) (by omega)]

set_option maxRecDepth 100000 in
set_option maxHeartbeats 1000000 in
theorem num_ok {c g : Nat} {C : Array Value} {T : TypeId} {fr : Nat × Nat} {st : Nat × List UInt8} (k : Nat) (w : World) (hk : k ≤ 3) (hg : w.heap[g]? = some (.cells C T fr)) (hgc : g ≠ c) (hR : RAt w c C g st) :
    Calls Try.prog 49 #[.pointer (some ⟨c, 0, none⟩), .int .i64 k] w fun e w' => e = .returned (.int .i64 ((rnum k st).1 : Nat)) ∧ RAt w' c C g (rnum k st).2 ∧ Fm c w w' := by
  have HR := Lib.hid hR
  have HG := Lib.hid hg
  clear hR hg
  go_enter Try.func49, Try.ntmps49
  go_wp2_with fail
  refine (take_any k w (by omega) HG.out hgc HR.out).mono ?_
  rintro e w1 ⟨u, bx, rfl, hbl, hs, hbe, hr, hf⟩
  obtain ⟨ad, cap, rfl⟩ := hs.len
  have HS := Lib.hid hs
  have HBE := Lib.hid hbe
  have HR1 := Lib.hid hr
  have HF := Lib.hid hf
  clear hs hbe hr hf
  go_wp2_with fail
  go_loop [5, 12] (fun n i => ∃ j : Nat, j ≤ bx.length ∧ i = .int .i64 j ∧ n = .int .i64 (be (bx.take j) : Nat)) (fun _ i => bx.length - (intOf i).toNat)
  case atStart => exact ⟨0, by omega, rfl, rfl⟩
  case round =>
    obtain ⟨j, hj, rfl, rfl⟩ := hrel
    by_cases hjn : j < bx.length
    · obtain ⟨B, hB⟩ : ∃ B, B = be (bx.take j) := ⟨_, rfl⟩
      have hBl : B < 65536 := by
        have h := be_lt (bx.take j)
        rw [← hB, List.length_take, Nat.min_eq_left (by omega)] at h
        exact Nat.lt_of_lt_of_le h (Nat.pow_le_pow_right (by omega) (by omega : j ≤ 2))
      have hB2 : be (bx.take (j + 1)) = B * 256 + (bx[j]).toNat := by
        rw [List.take_add_one, List.getElem?_eq_getElem hjn, hB]
        show be (bx.take j ++ [bx[j]]) = _
        unfold be
        rw [List.foldl_append]
        rfl
      obtain ⟨x, rfl, hcx⟩ : ∃ x, ad = some x ∧ w1.cell? (x.add j) = some (by8 bx[j]) := by
        rcases HS.out with ⟨e, h⟩ | ⟨x, c', e, _, hc⟩
        · subst h; simp at hjn
        · simp only [Value.slice.injEq] at e
          exact ⟨x, e.1, hc j _ (by simp [List.getElem?_map, List.getElem?_eq_getElem hjn])⟩
      obtain ⟨b, hb⟩ : ∃ b, b = bx[j] := ⟨_, rfl⟩
      rw [← hb] at hcx hB2
      rw [← hB]
      have hst := i64_step B b (by omega)
      have hbl := b.toNat_lt
      have HST := Lib.hid hst
      have HB2 := Lib.hid hB2
      clear hst hB2 hB hb
      go_wp2_with fail
      exact ⟨⟨j + 1, by omega, by simp, by rw [HST.out, HB2.out]⟩, by simp [intOf]; omega⟩
    · have hjn' : j = bx.length := by omega
      subst hjn'
      rw [List.take_length, HBE.out]
      go_wp2_with fail
      go_ret
      exact ⟨rfl, HR1.out, HF.out⟩

/-- The code stays small: a reader's code is one of five. -/
theorem rnum_lt {k : Nat} {st : Nat × List UInt8} : (rnum k st).1 < 256 ^ k ∨ (rnum k st).1 = 0 := by
  unfold rnum
  split
  · exact .inr rfl
  · left
    have h := be_lt (st.2.take k)
    rw [List.length_take, Nat.min_eq_left (by omega)] at h
    exact h

set_option maxRecDepth 100000 in
set_option maxHeartbeats 2000000 in
theorem vec_ok {c g : Nat} {C : Array Value} {T : TypeId} {fr : Nat × Nat} {st : Nat × List UInt8} (k low high : Nat) (w : World) (hk : k ≤ 3) (hg : w.heap[g]? = some (.cells C T fr)) (hgc : g ≠ c) (hR : RAt w c C g st) :
    Calls Try.prog 51 #[.pointer (some ⟨c, 0, none⟩), .int .i64 k, .int .i64 low, .int .i64 high] w fun e w' => ∃ u, e = .returned u ∧ VN C g u (rvec k low high st).1 ∧ RAt w' c C g (rvec k low high st).2 ∧ Fm c w w' := by
  have HR := Lib.hid hR
  have HG := Lib.hid hg
  clear hR hg
  go_enter Try.func51, Try.ntmps51
  go_wp2_with fail
  refine (num_ok k w hk HG.out hgc HR.out).mono ?_
  rintro e w1 ⟨rfl, hr, hf⟩
  obtain ⟨n, hn⟩ : ∃ n, n = (rnum k st).1 := ⟨_, rfl⟩
  obtain ⟨code, bs, hst⟩ : ∃ code bs, (rnum k st).2 = (code, bs) := ⟨_, _, rfl⟩
  rw [hst] at hr
  rw [← hn]
  obtain ⟨v, hh, hv⟩ := id hr
  obtain ⟨ad, cap, rfl, hcl, hcm⟩ := hv.len
  simp only at hh hv hcl
  have f0 : w1.cell? ⟨c, 0, none⟩ = some (.slice ad bs.length cap) := by rw [cell_of_heap hh]; rfl
  have f1 : w1.cell? ⟨c, 1, none⟩ = some (.int .i64 code) := by rw [cell_of_heap hh]; rfl
  have hv1 : rvec k low high st = if code ≠ 0 then ([], (code, bs)) else if bs.length < n then ([], (3, [])) else if n < low ∨ high < n then (bs.take n, (2, [])) else (bs.take n, (0, bs.drop n)) := by
    unfold rvec; rw [hst, ← hn]
  have HV := Lib.hid hv1
  have HR1 := Lib.hid hr
  have HF := Lib.hid hf
  have hg1 := (hf.keep g (lt_of_heap HG.out) hgc).trans HG.out
  have HG1 := Lib.hid hg1
  clear hv1 hr hf hg1 hh hv hst hn
  by_cases h0 : code = 0
  · subst h0
    by_cases h1 : (bs.length : Int) < (n : Int)
    · have e : rvec k low high st = ([], (3, [])) := by rw [HV.out, if_neg (by simp), if_pos (by omega)]
      go_wp2_with fail
      refine (fail_ok 3 w1 HR1.out).mono ?_
      rintro e w2 ⟨rfl, hr2, hf2⟩
      obtain ⟨v2, hh2, _⟩ := id hr2
      have f3 : w2.cell? ⟨c, 1, none⟩ = some (.int .i64 3) := by rw [cell_of_heap hh2]; rfl
      have HR2 := Lib.hid hr2
      have HF2 := Lib.hid (HF.out.trans hf2)
      have HE := Lib.hid e
      clear hr2 hf2 hh2 e
      go_wp2_with fail
      go_ret
      rw [HE.out]
      exact ⟨_, rfl, .inl ⟨rfl, rfl⟩, HR2.out, HF2.out⟩
    · go_wp2_with fail
      refine (take_yes n w1 (by omega) HR1.out).mono ?_
      rintro e w2 ⟨u, rfl, hv2, hr2, hf2⟩
      obtain ⟨au, cu, hu, _, _⟩ := hv2.len
      rw [show (bs.take n).length = n by simp; omega] at hu
      subst hu
      have HV2 := Lib.hid hv2
      have HR2 := Lib.hid hr2
      have HF2 := Lib.hid (HF.out.trans hf2)
      clear hv2 hr2 hf2
      by_cases h2 : (n : Int) < (low : Int)
      · have e : rvec k low high st = (bs.take n, (2, [])) := by rw [HV.out, if_neg (by simp), if_neg (by omega), if_pos (by omega)]
        have HE := Lib.hid e
        clear e
        go_wp2_with fail
        refine (fail_ok 2 w2 HR2.out).mono ?_
        rintro e w3 ⟨rfl, hr3, hf3⟩
        have HR3 := Lib.hid hr3
        have HF3 := Lib.hid (HF2.out.trans hf3)
        clear hr3 hf3
        go_wp2_with fail
        go_ret
        rw [HE.out]
        exact ⟨_, rfl, HV2.out, HR3.out, HF3.out⟩
      · by_cases h3 : (n : Int) > (high : Int)
        · have e : rvec k low high st = (bs.take n, (2, [])) := by rw [HV.out, if_neg (by simp), if_neg (by omega), if_pos (by omega)]
          have HE := Lib.hid e
          clear e
          go_wp2_with fail
          refine (fail_ok 2 w2 HR2.out).mono ?_
          rintro e w3 ⟨rfl, hr3, hf3⟩
          have HR3 := Lib.hid hr3
          have HF3 := Lib.hid (HF2.out.trans hf3)
          clear hr3 hf3
          go_wp2_with fail
          go_ret
          rw [HE.out]
          exact ⟨_, rfl, HV2.out, HR3.out, HF3.out⟩
        · have e : rvec k low high st = (bs.take n, (0, bs.drop n)) := by rw [HV.out, if_neg (by simp), if_neg (by omega), if_neg (by omega)]
          have HE := Lib.hid e
          clear e
          go_wp2_with fail
          go_ret
          rw [HE.out]
          exact ⟨_, rfl, HV2.out, HR2.out, HF2.out⟩
  · have h0' : ¬ ((code : Nat) : Int) = 0 := by omega
    have e : rvec k low high st = ([], (code, bs)) := by rw [HV.out, if_pos h0]
    have HE := Lib.hid e
    clear e
    go_wp2_with fail
    go_ret
    rw [HE.out]
    exact ⟨_, rfl, .inl ⟨rfl, rfl⟩, HR1.out, HF.out⟩

end Go.Proofs.Ytopcljikkdlffaa
