/- The walks of the two KeyExchange statements. Lists of lists of bytes: the reference's tests of them. A Certificate up to TLS 1.2 as the reference writes it; sameness of lists. No statement of the seat is proved here. -/
import Derived.Test.YtopcljikkdlffaaX05
namespace Go.Proofs.Ytopcljikkdlffaa
open Go.RowKit

/-- A slice of bytes that came in shows bytes. -/
theorem row_src {w : World} {a : Option Addr} {len cap : Nat} {zs : List Int}
    (h : (a = none ∧ len = 0 ∧ cap = 0 ∧ zs = []) ∨ ∃ x, a = some x ∧ len ≤ cap ∧ cap ≤ maxLen ∧ zs.length = cap ∧ (∀ i, i < zs.length → w.cell? (x.add i) = some (.int .u8 (zs.getD i 0))) ∧ ∀ n ∈ zs, (Lit.int .u8 n).wf = true) :
    ∃ s, s.length = len ∧ SrcB w w.heap.size (.slice a len cap) s := by
  rcases h with ⟨rfl, rfl, rfl, rfl⟩ | ⟨x, rfl, hl, hm, hz, hc, hw⟩
  · exact ⟨[], rfl, .inl ⟨rfl, rfl⟩⟩
  · have hlen : ((zs.take len).map fun z => UInt8.ofNat z.toNat).length = len := by simp; omega
    refine ⟨(zs.take len).map fun z => UInt8.ofNat z.toNat, hlen, .inr ⟨x, cap, by rw [hlen], ?_, ?_⟩⟩
    · intro hne
      have hpos : 0 < zs.length := by
        rcases Nat.eq_zero_or_pos zs.length with h | h
        · have : zs = [] := List.length_eq_zero_iff.1 h
          subst this; simp at hne
        · exact h
      have h0 := hc 0 hpos
      have : (x.add 0).block < w.heap.size := by
        unfold World.cell? at h0
        rcases Nat.lt_or_ge (x.add 0).block w.heap.size with h | h
        · exact h
        · rw [Array.getElem?_eq_none h] at h0; cases h0
      rwa [add_block] at this
    · intro j u hu
      have hj : j < len := by
        have := (List.getElem?_eq_some_iff.1 hu).1
        simp at this
        omega
      have hjz : j < zs.length := by omega
      rw [hc j hjz]
      have hwf := hw zs[j] (List.getElem_mem hjz)
      have hr : 0 ≤ zs[j] ∧ zs[j] < 256 := by
        simp [Lit.wf, IntKind.min, IntKind.max, IntKind.signed, IntKind.bits] at hwf
        omega
      simp only [List.map_map, List.map_take] at hu
      rw [List.getElem?_take_of_lt hj, List.getElem?_map, List.getElem?_eq_getElem hjz] at hu
      simp only [Option.map_some, Function.comp, Option.some.injEq] at hu
      rw [← hu, by8_int (k := zs[j].toNat) (n := zs[j]) (by omega)]
      simp [hjz]

set_option maxRecDepth 100000 in
set_option maxHeartbeats 400000 in
theorem skx_walk {s : List UInt8} {a0 : Option Addr} {len0 cap0 : Nat} (w : World) (hsl : s.length = len0) (hs : SrcB w w.heap.size (.slice a0 len0 cap0) s) :
    Calls Try.prog 3 #[.slice a0 len0 cap0] w fun e w' => e = .returned (.bool true) ∧ Below w.heap.size w w' := by
  subst hsl
  have HS := Lib.hid hs
  clear hs
  by_cases hbig : (s.length : Int) > 2147483647
  · go_enter Try.func3, Try.ntmps3
    go_wp2_with fail
    go_ret
    exact ⟨rfl, Below.refl _ _⟩
  · have hl : s.length ≤ 2147483647 := by omega
    go_enter Try.func3, Try.ntmps3
    go_wp2_with fail
    refine (writePlain_ok 12 w (by omega) HS.out (by omega)).mono ?_
    rintro e w1 ⟨v1, rfl, hown1, hB1⟩
    have HO1 := Lib.hid hown1
    have HB1 := Lib.hid hB1
    clear hown1 hB1
    by_cases hfit : 256 ^ 3 ≤ s.length
    · rw [decide_eq_true hfit]
      go_wp2_with fail
      refine (alive_ok w1).mono ?_
      rintro e w2 ⟨rfl, hB2⟩
      have HB2 := Lib.hid (HB1.out.trans (hB2.mono HB1.out.size))
      clear hB2
      go_wp2_with fail
      go_ret
      exact ⟨rfl, HB2.out⟩
    · rw [decide_eq_false hfit]
      have HS1 := Lib.hid ((HS.out.below HB1.out).keep (w' := w1) HB1.out.size (fun _ _ => rfl))
      have HT1 := Lib.hid (src_own (base := w1.heap.size) HO1.out (Nat.le_refl _))
      go_wp2_with fail
      refine (skx_impl w1 HS1.out hl).mono ?_
      rintro e w2 ⟨v2, rfl, hown2, hB2⟩
      obtain ⟨C, g, hV, hg, hgb⟩ := view_own hown2 (by simp [en1])
      have HV := Lib.hid hV
      have HG := Lib.hid hg
      have HO2 := Lib.hid hown2
      have HB2 := Lib.hid hB2
      clear hV hg hown2 hB2
      go_wp2_with fail
      refine (sky_impl w2 HV.out (by simp [en_length]; omega)).mono ?_
      rintro e w3 ⟨v3, rfl, hV3, hB3⟩
      have hd : (en 1 12 ++ en 3 s.length ++ s).drop 4 = s := by simp [en1, en3]
      rw [hd] at hV3
      have hg3 := (hB3.block g (lt_of_heap HG.out)).trans HG.out
      have HV3 := Lib.hid (view_src hV3 hg3)
      have HA3 := Lib.hid ((src_own (base := w2.heap.size) HO2.out (Nat.le_refl _)).below hB3)
      have HT3 := Lib.hid ((HT1.out.below HB2.out).keep (w' := w3) HB2.out.size (fun k hk => hB3.block k (Nat.lt_of_lt_of_le hk HB2.out.size)))
      have HS3 := Lib.hid ((HS1.out.below HB2.out).keep (w' := w3) HB2.out.size (fun k hk => hB3.block k (Nat.lt_of_lt_of_le hk HB2.out.size)))
      have HB := Lib.hid (HB1.out.trans ((HB2.out.mono HB1.out.size).trans (hB3.mono (Nat.le_trans HB1.out.size HB2.out.size))))
      clear hV3 hg3 hB3 hd
      go_wp2_with fail
      refine (Same_ok w3 HA3.out.src HT3.out.src).mono ?_
      rintro e w4 ⟨rfl, rfl⟩
      rw [decide_eq_true rfl]
      go_wp2_with fail
      refine (Same_ok w4 HV3.out.src HS3.out.src).mono ?_
      rintro e w5 ⟨rfl, rfl⟩
      rw [decide_eq_true rfl]
      go_wp2_with fail
      go_ret
      exact ⟨rfl, HB.out⟩


theorem hbe (s : List UInt8) (h : s.length < 16777216) : be (((en 1 16 ++ en 3 s.length ++ s).drop 1).take 3) + 4 = (en 1 16 ++ en 3 s.length ++ s).length := by
  have e : ((en 1 16 ++ en 3 s.length ++ s).drop 1).take 3 = en 3 s.length := by simp [en1, en3]
  rw [e, be_en, Nat.mod_eq_of_lt (by omega)]
  simp [en_length]
  omega

set_option maxRecDepth 100000 in
set_option maxHeartbeats 400000 in
theorem ckx_walk {s : List UInt8} {a0 : Option Addr} {len0 cap0 : Nat} (w : World) (hsl : s.length = len0) (hs : SrcB w w.heap.size (.slice a0 len0 cap0) s) :
    Calls Try.prog 4 #[.slice a0 len0 cap0] w fun e w' => e = .returned (.bool true) ∧ Below w.heap.size w w' := by
  subst hsl
  have HS := Lib.hid hs
  clear hs
  by_cases hbig : (s.length : Int) > 2147483647
  · go_enter Try.func4, Try.ntmps4
    go_wp2_with fail
    go_ret
    exact ⟨rfl, Below.refl _ _⟩
  · have hl : s.length ≤ 2147483647 := by omega
    go_enter Try.func4, Try.ntmps4
    go_wp2_with fail
    refine (writePlain_ok 16 w (by omega) HS.out (by omega)).mono ?_
    rintro e w1 ⟨v1, rfl, hown1, hB1⟩
    have HO1 := Lib.hid hown1
    have HB1 := Lib.hid hB1
    clear hown1 hB1
    by_cases hfit : 256 ^ 3 ≤ s.length
    · rw [decide_eq_true hfit]
      go_wp2_with fail
      refine (alive_ok w1).mono ?_
      rintro e w2 ⟨rfl, hB2⟩
      have HB2 := Lib.hid (HB1.out.trans (hB2.mono HB1.out.size))
      clear hB2
      go_wp2_with fail
      go_ret
      exact ⟨rfl, HB2.out⟩
    · rw [decide_eq_false hfit]
      have HS1 := Lib.hid ((HS.out.below HB1.out).keep (w' := w1) HB1.out.size (fun _ _ => rfl))
      have HT1 := Lib.hid (src_own (base := w1.heap.size) HO1.out (Nat.le_refl _))
      go_wp2_with fail
      refine (ckx_impl w1 HS1.out hl).mono ?_
      rintro e w2 ⟨v2, rfl, hown2, hB2⟩
      obtain ⟨C, g, hV, hg, hgb⟩ := view_own hown2 (by simp [en1])
      have HV := Lib.hid hV
      have HG := Lib.hid hg
      have HO2 := Lib.hid hown2
      have HB2 := Lib.hid hB2
      clear hV hg hown2 hB2
      go_wp2_with fail
      refine (cky_impl w2 HG.out HV.out (by simp [en_length]; omega) (hbe s (by omega))).mono ?_
      rintro e w3 ⟨v3, rfl, hV3, hB3⟩
      have hd : (en 1 16 ++ en 3 s.length ++ s).drop 4 = s := by simp [en1, en3]
      rw [hd] at hV3
      have hg3 := (hB3.block g (lt_of_heap HG.out)).trans HG.out
      have HV3 := Lib.hid (view_src hV3 hg3)
      have HA3 := Lib.hid ((src_own (base := w2.heap.size) HO2.out (Nat.le_refl _)).below hB3)
      have HT3 := Lib.hid ((HT1.out.below HB2.out).keep (w' := w3) HB2.out.size (fun k hk => hB3.block k (Nat.lt_of_lt_of_le hk HB2.out.size)))
      have HS3 := Lib.hid ((HS1.out.below HB2.out).keep (w' := w3) HB2.out.size (fun k hk => hB3.block k (Nat.lt_of_lt_of_le hk HB2.out.size)))
      have HB := Lib.hid (HB1.out.trans ((HB2.out.mono HB1.out.size).trans (hB3.mono (Nat.le_trans HB1.out.size HB2.out.size))))
      clear hV3 hg3 hB3 hd
      go_wp2_with fail
      refine (Same_ok w3 HA3.out.src HT3.out.src).mono ?_
      rintro e w4 ⟨rfl, rfl⟩
      rw [decide_eq_true rfl]
      go_wp2_with fail
      refine (Same_ok w4 HV3.out.src HS3.out.src).mono ?_
      rintro e w5 ⟨rfl, rfl⟩
      rw [decide_eq_true rfl]
      go_wp2_with fail
      go_ret
      exact ⟨rfl, HB.out⟩


end Go.Proofs.Ytopcljikkdlffaa
namespace Go.Proofs.Ytopcljikkdlffaa
open Go.RowKit

/-- A slice of slices of bytes that shows the lists L and lies below base. -/
def LstB (w : World) (base : Nat) (v : Value) (L : List (List UInt8)) : Prop :=
  (v = .slice none 0 0 ∧ L = []) ∨ ∃ ad cap, v = .slice (some ad) L.length cap ∧ (L ≠ [] → ad.block < base) ∧ ∀ j s, L[j]? = some s → ∃ u, w.cell? (ad.add j) = some u ∧ SrcB w base u s

theorem LstB.keep {w w' : World} {base base' : Nat} {v : Value} {L : List (List UInt8)} (h : LstB w base v L) (hb : base ≤ base') (hk : ∀ k, k < base → w'.heap[k]? = w.heap[k]?) : LstB w' base' v L := by
  rcases h with h | ⟨ad, cap, e, hlt, hc⟩
  · exact .inl h
  · refine .inr ⟨ad, cap, e, fun h => by have := hlt h; omega, fun j s hs => ?_⟩
    obtain ⟨u, hu, hsrc⟩ := hc j s hs
    refine ⟨u, ?_, hsrc.keep hb hk⟩
    rw [← hu]
    exact World.cell?_of_block (by rw [add_block]; exact hk _ (hlt (by rintro rfl; simp at hs)))

theorem LstB.len {w : World} {base : Nat} {v : Value} {L : List (List UInt8)} (h : LstB w base v L) : ∃ ad cap, v = .slice ad L.length cap ∧ (0 < L.length → ∃ x, ad = some x) := by
  rcases h with ⟨rfl, rfl⟩ | ⟨ad, cap, rfl, _⟩
  · exact ⟨none, 0, rfl, fun h => by simp at h⟩
  · exact ⟨some ad, cap, rfl, fun _ => ⟨_, rfl⟩⟩

theorem LstB.at {w : World} {base len cap : Nat} {x : Addr} {L : List (List UInt8)} (h : LstB w base (.slice (some x) len cap) L) {j : Nat} (hj : j < L.length) : ∃ u, w.cell? (x.add j) = some u ∧ SrcB w base u L[j] := by
  rcases h with ⟨h, _⟩ | ⟨ad, cap, e, _, hc⟩
  · cases h
  · simp only [Value.slice.injEq, Option.some.injEq] at e
    obtain ⟨rfl, _, _⟩ := e
    exact hc j _ (List.getElem?_eq_getElem hj)

set_option maxRecDepth 100000 in
set_option maxHeartbeats 1000000 in
theorem fits2_ok {base : Nat} {v : Value} {L : List (List UInt8)} (w : World) (hL : LstB w base v L) (hn : L.length ≤ 2147483647) (hs : ∀ s ∈ L, s.length ≤ 2147483647) :
    Calls Try.prog 18 #[v] w fun e w' => e = .returned (.bool true) ∧ w' = w := by
  obtain ⟨ad, cap, rfl, hx⟩ := hL.len
  have HL := Lib.hid hL
  clear hL
  go_enter Try.func18, Try.ntmps18
  go_wp2_with fail
  go_loop [4, 10, 12, 13, 14, 15, 16] (fun _ i _ _ _ _ _ => ∃ j : Nat, j ≤ L.length ∧ i = .int .i64 j) (fun _ i _ _ _ _ _ => L.length - (intOf i).toNat)
  case atStart => exact ⟨0, by omega, rfl⟩
  case round =>
    obtain ⟨j, hj, rfl⟩ := hrel
    by_cases hjn : j < L.length
    · obtain ⟨x, rfl⟩ := hx (by omega)
      obtain ⟨u, hu, hsrc⟩ := HL.out.at hjn
      obtain ⟨ad1, cap1, rfl⟩ := hsrc.len
      have hl := hs _ (List.getElem_mem hjn)
      go_wp2_with fail
      exact ⟨⟨j + 1, by omega, by simp⟩, by simp [intOf]; omega⟩
    · go_wp2_with fail
      go_ret
      exact ⟨rfl, rfl⟩

set_option maxRecDepth 100000 in
set_option maxHeartbeats 1000000 in
theorem none_ok {base : Nat} {v : Value} {L : List (List UInt8)} (w : World) (hL : LstB w base v L) (hn : L.length ≤ 2147483647) (hs : ∀ s ∈ L, s.length ≤ 2147483647) :
    Calls Try.prog 43 #[v, .int .i64 0, .int .i64 0] w fun e w' => e = .returned (.bool (L.all fun s => !s.isEmpty)) ∧ w' = w := by
  obtain ⟨ad, cap, rfl, hx⟩ := hL.len
  have HL := Lib.hid hL
  clear hL
  go_enter Try.func43, Try.ntmps43
  go_wp2_with fail
  go_loop [8, 11, 13, 14, 15, 16, 17, 18, 19, 20, 21, 22, 23, 24] (fun _ i _ _ _ _ _ _ _ _ _ _ _ _ => ∃ j : Nat, j ≤ L.length ∧ i = .int .i64 j ∧ ∀ r (h : r < L.length), r < j → L[r] ≠ []) (fun _ i _ _ _ _ _ _ _ _ _ _ _ _ => L.length - (intOf i).toNat)
  case atStart => exact ⟨0, by omega, rfl, fun r h h2 => by omega⟩
  case round =>
    obtain ⟨j, hj, rfl, hall⟩ := hrel
    have HA := Lib.hid hall
    clear hall
    by_cases hjn : j < L.length
    · obtain ⟨x, rfl⟩ := hx (by omega)
      obtain ⟨u, hu, hsrc⟩ := HL.out.at hjn
      obtain ⟨ad1, cap1, rfl⟩ := hsrc.len
      have hl := hs _ (List.getElem_mem hjn)
      have hnn : (0 : Int) ≤ (L[j].length : Int) := by omega
      obtain ⟨n, hnl⟩ : ∃ n : Nat, n = L[j].length := ⟨_, rfl⟩
      rw [← hnl] at hnn hl hu
      have HNL := Lib.hid hnl
      clear hnl
      cases n with
      | zero =>
        go_wp2_with fail
        go_ret
        refine ⟨?_, rfl⟩
        show Ending.returned (Value.bool false) = _
        congr 2
        symm
        rw [List.all_eq_false]
        refine ⟨L[j], List.getElem_mem hjn, ?_⟩
        have e : L[j] = [] := List.length_eq_zero_iff.1 HNL.out.symm
        simp [e]
      | succ n =>
        have hp : ¬ ((n + 1 : Nat) : Int) ≤ 0 := by omega
        have hp' : ¬ ((n : Int) + 1) ≤ 0 := by omega
        go_wp2_with fail
        exact ⟨⟨j + 1, by omega, by simp, fun r h hr => by
          by_cases e : r = j
          · subst e; intro e2; have hnl := HNL.out; rw [e2] at hnl; simp at hnl
          · exact HA.out r h (by omega)⟩, by simp [intOf]; omega⟩
    · go_wp2_with fail
      go_ret
      refine ⟨?_, rfl⟩
      show Ending.returned (Value.bool true) = _
      congr 2
      symm
      rw [List.all_eq_true]
      intro s hs
      obtain ⟨r, hr, rfl⟩ := List.mem_iff_getElem.1 hs
      have := HA.out r hr (by omega)
      simpa using this

set_option maxRecDepth 100000 in
set_option maxHeartbeats 400000 in
theorem rightCert_ok {base : Nat} {v : Value} {L : List (List UInt8)} (w : World) (hL : LstB w base v L) (hn : L.length ≤ 2147483647) (hs : ∀ s ∈ L, s.length ≤ 2147483647) :
    Calls Try.prog 19 #[v] w fun e w' => e = .returned (.bool (L.all fun s => !s.isEmpty)) ∧ w' = w := by
  go_enter Try.func19, Try.ntmps19
  go_wp2_with fail
  refine (none_ok w hL hn hs).mono ?_
  rintro e w1 ⟨rfl, rfl⟩
  go_wp2_with fail
  go_ret
  exact ⟨rfl, rfl⟩

/-- Vectors one behind the other. -/
def vecs (k : Nat) (L : List (List UInt8)) : List UInt8 := L.flatMap fun s => en k s.length ++ s

theorem vecs_snoc (k : Nat) (L : List (List UInt8)) (s : List UInt8) : vecs k (L ++ [s]) = vecs k L ++ en k s.length ++ s := by simp [vecs]

theorem take_snoc {L : List (List UInt8)} {j : Nat} (h : j < L.length) : L.take (j + 1) = L.take j ++ [L[j]] := by
  rw [List.take_add_one, List.getElem?_eq_getElem h]; rfl

theorem vecs_le {k : Nat} (L : List (List UInt8)) (j : Nat) : (vecs k (L.take j)).length ≤ (vecs k L).length := by
  have h : vecs k L = vecs k (L.take j) ++ vecs k (L.drop j) := by unfold vecs; rw [← List.flatMap_append, List.take_append_drop]
  rw [h]; simp

set_option maxRecDepth 100000 in
set_option maxHeartbeats 1000000 in
theorem vectors_ok {v : Value} {L : List (List UInt8)} (w : World) (hL : LstB w w.heap.size v L) (hn : L.length ≤ 2147483647) (hs : ∀ s ∈ L, s.length < 16777216) (hT : (vecs 3 L).length ≤ 16777216) :
    Calls Try.prog 45 #[.int .i64 3, v] w fun e w' => ∃ u, e = .returned (.agg #[u, .bool false]) ∧ w'.ownsRow w.heap.size 5 1 u (vecs 3 L).length ((vecs 3 L).map by8) ∧ Below w.heap.size w w' := by
  obtain ⟨ad, cap, rfl, hx⟩ := hL.len
  have HL := Lib.hid hL
  clear hL
  go_enter Try.func45, Try.ntmps45
  go_wp2_with fail
  have HW0 := Lib.hid (wat_new (w.alloc (.cells #[.slice none 0 0, .bool false] 62)) (base := w.heap.size) (by simp))
  rw [World.size_alloc] at HW0
  go_loopw [7, 10, 12, 13, 14, 15, 16] (fun _ i _ _ _ _ _ wr => ∃ j : Nat, j ≤ L.length ∧ i = .int .i64 j ∧ WAt wr w.heap.size (w.heap.size + 1) false (vecs 3 (L.take j)) ∧
      Fr w.heap.size (w.heap.size + 1) ((w.alloc (.cells #[.slice none 0 0, .bool false] 62)).alloc (.cells #[.slice none 0 0, .bool false] 62)) wr) (fun _ i _ _ _ _ _ _ => L.length - (intOf i).toNat)
  case atStart => exact ⟨0, by omega, rfl, by simpa [vecs] using HW0.out, Fr.refl _ _ _⟩
  case round =>
    obtain ⟨j, hj, rfl, hW, hF⟩ := hrel
    have HB : Hid (Below w.heap.size w wr) := (((Below.refl _ w).alloc (Nat.le_refl _) _).alloc (by simp) _).trans (hF.below (by simp; omega) (by omega))
    have HW := Lib.hid hW
    have HF := Lib.hid hF
    clear hW hF
    by_cases hjn : j < L.length
    · obtain ⟨x, rfl⟩ := hx (by omega)
      obtain ⟨u, hu, hsrc⟩ := (HL.out.keep (Nat.le_refl _) HB.out.block).at hjn
      obtain ⟨ad1, cap1, rfl⟩ := hsrc.len
      have HS := Lib.hid hsrc
      have hl := hs _ (List.getElem_mem hjn)
      have hle := vecs_le (k := 3) L j
      clear hsrc
      go_wp2_with fail
      refine (wvec_ok 3 _ (.inr (.inr rfl)) HW.out (by omega) HS.out (by omega) (by omega)).mono ?_
      rintro e w1 ⟨rfl, hW1, hF1⟩
      rw [decide_eq_false (by omega : ¬ 256 ^ 3 ≤ L[j].length), Bool.or_false, ← vecs_snoc, ← take_snoc hjn] at hW1
      have HW1 := Lib.hid hW1
      have HF1 := Lib.hid (HF.out.trans hF1)
      clear hW1 hF1
      go_wp2_with fail
      exact ⟨⟨j + 1, by omega, by simp, HW1.out, HF1.out⟩, by simp [intOf]; omega⟩
    · have hjn' : j = L.length := by omega
      subst hjn'
      rw [List.take_length] at HW
      have c1 : wr.heap[w.heap.size]? = some (.cells #[.slice none 0 0, .bool false] 62 (0, 0)) := by
        rw [HF.out.keep _ (by simp; omega) (by omega) (.inr ?_)]
        · exact (Below.heap_alloc _ _ _ (by simp)).trans (heap_alloc_new _ _)
        · rintro ⟨cs, fr, e⟩
          rw [(Below.heap_alloc _ _ _ (by simp)).trans (heap_alloc_new _ _)] at e
          simp at e
      obtain ⟨v, hh, hown, hb⟩ := HW.out
      obtain ⟨ao, capw, rfl⟩ := row_slice hown
      have g0 : wr.cell? ⟨w.heap.size + 1, 0, none⟩ = some (.slice ao (vecs 3 L).length capw) := by rw [cell_of_heap hh]; rfl
      have g1 : wr.cell? ⟨w.heap.size + 1, 1, none⟩ = some (.bool false) := by rw [cell_of_heap hh]; rfl
      have d0 : wr.cell? ⟨w.heap.size, 0, none⟩ = some (.slice none 0 0) := by rw [cell_of_heap c1]; rfl
      have d1 : wr.cell? ⟨w.heap.size, 1, none⟩ = some (.bool false) := by rw [cell_of_heap c1]; rfl
      have hfz : ∀ o, wr.frozen? ⟨w.heap.size, o, none⟩ = false := fun o => frozen_of_heap c1
      have HO := Lib.hid hown
      have HC := Lib.hid c1
      clear hh hown c1
      go_wp2_with fail
      (try simp only [Exit.inBlock, Exit.then])
      have hc2 : ∀ u, (wr.setCell ⟨w.heap.size, 0, none⟩ u).heap[w.heap.size]? = some (.cells #[u, .bool false] 62 (0, 0)) := fun u => (heap_set_same HC.out).trans rfl
      refine bodyPost_ret (v := .agg #[.slice ao (vecs 3 L).length capw, .bool false]) ?_ rfl ⟨_, rfl, ownsRow_set (ownsRow_set HO.out HC.out (by decide)) (hc2 _) (by decide), (HB.out.setCell (Nat.le_refl _) _).setCell (Nat.le_refl _) _⟩
      rw [results_cell1 rfl]
      go_simp

set_option maxRecDepth 100000 in
set_option maxHeartbeats 1000000 in
theorem vector_ok {s : List UInt8} {u : Value} {xb : Bool} (k : Nat) (w : World) (hk : k = 1 ∨ k = 2 ∨ k = 3) (hs : SrcB w w.heap.size u s) (hl : s.length ≤ 4294967296) :
    Calls Try.prog 44 #[.int .i64 k, .agg #[u, .bool xb]] w fun e w' => ∃ u', e = .returned (.agg #[u', .bool (xb || decide (256 ^ k ≤ s.length))]) ∧ w'.ownsRow w.heap.size 5 1 u' (s.length + k) ((en k s.length ++ s).map by8) ∧ Below w.heap.size w w' := by
  obtain ⟨ad0, cap0, rfl⟩ := hs.len
  have HS := Lib.hid hs
  clear hs
  go_enter Try.func44, Try.ntmps44
  go_wp2_with fail
  have HW0 := Lib.hid (wat_new ((w.alloc (.cells #[.slice ad0 s.length cap0, .bool xb] 62)).alloc (.cells #[.slice none 0 0, .bool false] 62)) (base := w.heap.size) (by simp; omega))
  simp only [World.size_alloc] at HW0
  have HB0 : Below w.heap.size w (((w.alloc (.cells #[.slice ad0 s.length cap0, .bool xb] 62)).alloc (.cells #[.slice none 0 0, .bool false] 62)).alloc (.cells #[.slice none 0 0, .bool false] 62)) :=
    (((Below.refl _ w).alloc (Nat.le_refl _) _).alloc (by simp) _).alloc (by simp; omega) _
  have HS0 := Lib.hid (HS.out.below HB0)
  have HB0 := Lib.hid HB0
  refine (winner_ok (base := w.heap.size) k _ hk HW0.out (by omega) HS0.out hl (by simp; omega)).mono ?_
  rintro e w1 ⟨rfl, hW1, hF1⟩
  rw [Bool.false_or, List.nil_append] at hW1
  have c1 : w1.heap[w.heap.size + 1]? = some (.cells #[.slice none 0 0, .bool false] 62 (0, 0)) := by
    have h0 : (((w.alloc (.cells #[.slice ad0 s.length cap0, .bool xb] 62)).alloc (.cells #[.slice none 0 0, .bool false] 62)).alloc (.cells #[.slice none 0 0, .bool false] 62)).heap[w.heap.size + 1]? = some (.cells #[.slice none 0 0, .bool false] 62 (0, 0)) := by
      rw [Below.heap_alloc _ _ _ (by simp)]
      have h := heap_alloc_new (w.alloc (.cells #[.slice ad0 s.length cap0, .bool xb] 62)) (.cells #[.slice none 0 0, .bool false] 62)
      rwa [World.size_alloc] at h
    rw [hF1.keep _ (by simp) (by omega) (.inr ?_)]
    · exact h0
    · rintro ⟨cs, fr, e⟩
      rw [h0] at e
      simp at e
  have HB1 := Lib.hid (HB0.out.trans (hF1.below (by simp; omega) (by omega)))
  obtain ⟨v, hh, hown, hb⟩ := hW1
  rw [List.length_append, en_length, Nat.add_comm] at hown
  obtain ⟨ao, capw, rfl⟩ := row_slice hown
  obtain ⟨bad, hbad⟩ : ∃ b, b = (xb || decide (256 ^ k ≤ s.length)) := ⟨_, rfl⟩
  rw [← hbad] at hh
  have HBD := Lib.hid hbad
  have g0 : w1.cell? ⟨w.heap.size + 1 + 1, 0, none⟩ = some (.slice ao (s.length + k) capw) := by rw [cell_of_heap hh]; rfl
  have g1 : w1.cell? ⟨w.heap.size + 1 + 1, 1, none⟩ = some (.bool bad) := by rw [cell_of_heap hh]; rfl
  have d0 : w1.cell? ⟨w.heap.size + 1, 0, none⟩ = some (.slice none 0 0) := by rw [cell_of_heap c1]; rfl
  have d1 : w1.cell? ⟨w.heap.size + 1, 1, none⟩ = some (.bool false) := by rw [cell_of_heap c1]; rfl
  have hfz : ∀ o, w1.frozen? ⟨w.heap.size + 1, o, none⟩ = false := fun o => frozen_of_heap c1
  have HO := Lib.hid hown
  have HC := Lib.hid c1
  clear hh hown c1 hbad hF1
  go_wp2_with fail
  (try simp only [Exit.inBlock, Exit.then])
  have hc2 : ∀ u, (w1.setCell ⟨w.heap.size + 1, 0, none⟩ u).heap[w.heap.size + 1]? = some (.cells #[u, .bool false] 62 (0, 0)) := fun u => (heap_set_same HC.out).trans rfl
  refine bodyPost_ret (v := .agg #[.slice ao (s.length + k) capw, .bool bad]) ?_ rfl ⟨_, by rw [← HBD.out], ownsRow_set (ownsRow_set HO.out HC.out (by decide)) (hc2 _) (by decide), (HB1.out.setCell (Nat.le_succ _) _).setCell (Nat.le_succ _) _⟩
  rw [results_cell1 rfl]
  go_simp

end Go.Proofs.Ytopcljikkdlffaa
namespace Go.Proofs.Ytopcljikkdlffaa
open Go.RowKit

/-- The bytes of a Certificate message. -/
def wcert (L : List (List UInt8)) : List UInt8 := en 1 11 ++ en 3 (3 + (vecs 3 L).length) ++ (en 3 (vecs 3 L).length ++ vecs 3 L)

theorem wcert_length (L : List (List UInt8)) : (wcert L).length = (vecs 3 L).length + 7 := by simp [wcert, en_length]; omega

set_option maxRecDepth 100000 in
set_option maxHeartbeats 400000 in
theorem writeCert_ok {v : Value} {L : List (List UInt8)} (w : World) (hL : LstB w w.heap.size v L) (hn : L.length ≤ 2147483647) (hs : ∀ s ∈ L, s.length < 16777216) (hT : (vecs 3 L).length + 3 < 16777216) :
    Calls Try.prog 20 #[v] w fun e w' => ∃ u, e = .returned (.tuple #[u, .bool true]) ∧ w'.ownsRow w.heap.size 5 1 u ((vecs 3 L).length + 7) ((wcert L).map by8) ∧ Below w.heap.size w w' := by
  obtain ⟨ad, cap, rfl, _⟩ := hL.len
  have HL := Lib.hid hL
  clear hL
  go_enter Try.func20, Try.ntmps20
  go_wp2_with fail
  refine (vectors_ok w HL.out hn hs (by omega)).mono ?_
  rintro e w1 ⟨u1, rfl, hown, hB⟩
  have HS := Lib.hid (src_own (base := w1.heap.size) hown (Nat.le_refl _))
  obtain ⟨a1, c1, rfl⟩ := row_slice hown
  have HB := Lib.hid hB
  clear hown hB
  go_wp2_with fail
  refine (vector_ok 3 w1 (.inr (.inr rfl)) HS.out (by omega)).mono ?_
  rintro e w2 ⟨u2, rfl, hown, hB⟩
  rw [decide_eq_false (by omega : ¬ 256 ^ 3 ≤ (vecs 3 L).length), Bool.or_false]
  have HS2 := Lib.hid (src_own (base := w2.heap.size) hown (Nat.le_refl _))
  obtain ⟨a2, c2, rfl⟩ := row_slice hown
  have HB2 := Lib.hid (HB.out.trans (hB.mono HB.out.size))
  clear hown hB
  have hl3 : (en 3 (vecs 3 L).length ++ vecs 3 L).length = 3 + (vecs 3 L).length := by simp [en_length]
  go_wp2_with fail
  refine (message_ok 11 w2 (by omega) HS2.out (by omega)).mono ?_
  rintro e w3 ⟨u3, rfl, hown, hB⟩
  rw [decide_eq_false (by omega : ¬ 256 ^ 3 ≤ (en 3 (vecs 3 L).length ++ vecs 3 L).length), Bool.or_false]
  have HO := Lib.hid (ownsRow_mono hown HB2.out.size)
  have HB3 := Lib.hid (HB2.out.trans (hB.mono HB2.out.size))
  clear hown hB
  go_wp2_with fail
  go_ret2
  refine ⟨u3, rfl, ?_, HB3.out⟩
  have h := HO.out
  rw [hl3] at h
  have e : 3 + (vecs 3 L).length + 4 = (vecs 3 L).length + 7 := by omega
  rw [e] at h
  exact h

set_option maxRecDepth 100000 in
set_option maxHeartbeats 1000000 in
/-- Two lists that show the same. -/
theorem sameLists_ok {base : Nat} {u v : Value} {L : List (List UInt8)} (w : World) (hu : LstB w base u L) (hv : LstB w base v L) (hn : L.length ≤ 2147483647) :
    Calls Try.prog 23 #[u, v] w fun e w' => e = .returned (.bool true) ∧ w' = w := by
  obtain ⟨ad, cap, rfl, hx⟩ := hu.len
  obtain ⟨bd, cap2, rfl, hy⟩ := hv.len
  have HU := Lib.hid hu
  have HV := Lib.hid hv
  clear hu hv
  go_enter Try.func23, Try.ntmps23
  go_wp2_with fail
  go_loop [5, 6, 14, 15, 16, 17, 18, 19, 20, 21, 22, 23, 24, 25] (fun _ _ i _ _ _ _ _ _ _ _ _ _ _ => ∃ j : Nat, j ≤ L.length ∧ i = .int .i64 j) (fun _ _ i _ _ _ _ _ _ _ _ _ _ _ => L.length - (intOf i).toNat)
  case atStart => exact ⟨0, by omega, rfl⟩
  case round =>
    obtain ⟨j, hj, rfl⟩ := hrel
    by_cases hjn : j < L.length
    · obtain ⟨x, rfl⟩ := hx (by omega)
      obtain ⟨y, rfl⟩ := hy (by omega)
      obtain ⟨u1, hu, hsu⟩ := HU.out.at hjn
      obtain ⟨u2, hv, hsv⟩ := HV.out.at hjn
      obtain ⟨ad1, cap1, rfl⟩ := hsu.len
      obtain ⟨ad2, cap2, rfl⟩ := hsv.len
      have HSU := Lib.hid hsu
      have HSV := Lib.hid hsv
      clear hsu hsv
      go_wp2_with fail
      refine (same_ok w HSU.out.src HSV.out.src).mono ?_
      rintro e w1 ⟨rfl, rfl⟩
      rw [decide_eq_true rfl]
      go_wp2_with fail
      exact ⟨⟨j + 1, by omega, by simp⟩, by simp [intOf]; omega⟩
    · go_wp2_with fail
      go_ret
      exact ⟨rfl, rfl⟩

end Go.Proofs.Ytopcljikkdlffaa
