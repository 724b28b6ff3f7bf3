/- The walks of the two KeyExchange statements. -/
import Derived.Test.YtopcljikkdlffaaKy
namespace Go.Proofs.Ytopcljikkdlffaa
open Go.RowKit

/-- A slice of bytes that came in shows bytes. -/
theorem row_src {w : World} {a : Option Addr} {len cap : Nat} {zs : List Int}
    (h : (a = none ∧ len = 0 ∧ cap = 0 ∧ zs = []) ∨ ∃ x, a = some x ∧ len ≤ cap ∧ cap ≤ maxLen ∧ zs.length = cap ∧ (∀ i, i < zs.length → w.cell? (x.add i) = some (.int .u8 (zs.getD i 0))) ∧ ∀ n ∈ zs, (Lit.int .u8 n).wf = true) :
    ∃ s, s.length = len ∧ SrcB w w.heap.size (.slice a len cap) s := by
  rcases h with ⟨rfl, rfl, rfl, rfl⟩ | ⟨x, rfl, hl, hm, hz, hc, hw⟩
  · exact ⟨[], rfl, .inl ⟨rfl, rfl⟩⟩
  · have hlen : ((zs.take len).map fun z => UInt8.ofNat z.toNat).length = len := by simp; omega
    refine ⟨(zs.take len).map fun z => UInt8.ofNat z.toNat, hlen, .inr ⟨x, cap, by rw [hlen], ?_, ?_⟩⟩
    · intro hne
      have hpos : 0 < zs.length := by
        rcases Nat.eq_zero_or_pos zs.length with h | h
        · have : zs = [] := List.length_eq_zero_iff.1 h
          subst this; simp at hne
        · exact h
      have h0 := hc 0 hpos
      have : (x.add 0).block < w.heap.size := by
        unfold World.cell? at h0
        rcases Nat.lt_or_ge (x.add 0).block w.heap.size with h | h
        · exact h
        · rw [Array.getElem?_eq_none h] at h0; cases h0
      rwa [add_block] at this
    · intro j u hu
      have hj : j < len := by
        have := (List.getElem?_eq_some_iff.1 hu).1
        simp at this
        omega
      have hjz : j < zs.length := by omega
      rw [hc j hjz]
      have hwf := hw zs[j] (List.getElem_mem hjz)
      have hr : 0 ≤ zs[j] ∧ zs[j] < 256 := by
        simp [Lit.wf, IntKind.min, IntKind.max, IntKind.signed, IntKind.bits] at hwf
        omega
      simp only [List.map_map, List.map_take] at hu
      rw [List.getElem?_take_of_lt hj, List.getElem?_map, List.getElem?_eq_getElem hjz] at hu
      simp only [Option.map_some, Function.comp, Option.some.injEq] at hu
      rw [← hu, by8_int (k := zs[j].toNat) (n := zs[j]) (by omega)]
      simp [hjz]

set_option maxRecDepth 100000 in
set_option maxHeartbeats 400000 in
theorem skx_walk {s : List UInt8} {a0 : Option Addr} {len0 cap0 : Nat} (w : World) (hsl : s.length = len0) (hs : SrcB w w.heap.size (.slice a0 len0 cap0) s) :
    Calls Try.prog 3 #[.slice a0 len0 cap0] w fun e w' => e = .returned (.bool true) ∧ Below w.heap.size w w' := by
  subst hsl
  have HS := Lib.hid hs
  clear hs
  by_cases hbig : (s.length : Int) > 2147483647
  · go_enter Try.func3, Try.ntmps3
    go_wp2_with fail
    go_ret
    exact ⟨rfl, Below.refl _ _⟩
  · have hl : s.length ≤ 2147483647 := by omega
    go_enter Try.func3, Try.ntmps3
    go_wp2_with fail
    refine (writePlain_ok 12 w (by omega) HS.out (by omega)).mono ?_
    rintro e w1 ⟨v1, rfl, hown1, hB1⟩
    have HO1 := Lib.hid hown1
    have HB1 := Lib.hid hB1
    clear hown1 hB1
    by_cases hfit : 256 ^ 3 ≤ s.length
    · rw [decide_eq_true hfit]
      go_wp2_with fail
      refine (alive_ok w1).mono ?_
      rintro e w2 ⟨rfl, hB2⟩
      have HB2 := Lib.hid (HB1.out.trans (hB2.mono HB1.out.size))
      clear hB2
      go_wp2_with fail
      go_ret
      exact ⟨rfl, HB2.out⟩
    · rw [decide_eq_false hfit]
      have HS1 := Lib.hid ((HS.out.below HB1.out).keep (w' := w1) HB1.out.size (fun _ _ => rfl))
      have HT1 := Lib.hid (src_own (base := w1.heap.size) HO1.out (Nat.le_refl _))
      go_wp2_with fail
      refine (skx_impl w1 HS1.out hl).mono ?_
      rintro e w2 ⟨v2, rfl, hown2, hB2⟩
      obtain ⟨C, g, hV, hg, hgb⟩ := view_own hown2 (by simp [en1])
      have HV := Lib.hid hV
      have HG := Lib.hid hg
      have HO2 := Lib.hid hown2
      have HB2 := Lib.hid hB2
      clear hV hg hown2 hB2
      go_wp2_with fail
      refine (sky_impl w2 HV.out (by simp [en_length]; omega)).mono ?_
      rintro e w3 ⟨v3, rfl, hV3, hB3⟩
      have hd : (en 1 12 ++ en 3 s.length ++ s).drop 4 = s := by simp [en1, en3]
      rw [hd] at hV3
      have hg3 := (hB3.block g (lt_of_heap HG.out)).trans HG.out
      have HV3 := Lib.hid (view_src hV3 hg3)
      have HA3 := Lib.hid ((src_own (base := w2.heap.size) HO2.out (Nat.le_refl _)).below hB3)
      have HT3 := Lib.hid ((HT1.out.below HB2.out).keep (w' := w3) HB2.out.size (fun k hk => hB3.block k (Nat.lt_of_lt_of_le hk HB2.out.size)))
      have HS3 := Lib.hid ((HS1.out.below HB2.out).keep (w' := w3) HB2.out.size (fun k hk => hB3.block k (Nat.lt_of_lt_of_le hk HB2.out.size)))
      have HB := Lib.hid (HB1.out.trans ((HB2.out.mono HB1.out.size).trans (hB3.mono (Nat.le_trans HB1.out.size HB2.out.size))))
      clear hV3 hg3 hB3 hd
      go_wp2_with fail
      refine (Same_ok w3 HA3.out.src HT3.out.src).mono ?_
      rintro e w4 ⟨rfl, rfl⟩
      rw [decide_eq_true rfl]
      go_wp2_with fail
      refine (Same_ok w4 HV3.out.src HS3.out.src).mono ?_
      rintro e w5 ⟨rfl, rfl⟩
      rw [decide_eq_true rfl]
      go_wp2_with fail
      go_ret
      exact ⟨rfl, HB.out⟩


theorem hbe (s : List UInt8) (h : s.length < 16777216) : be (((en 1 16 ++ en 3 s.length ++ s).drop 1).take 3) + 4 = (en 1 16 ++ en 3 s.length ++ s).length := by
  have e : ((en 1 16 ++ en 3 s.length ++ s).drop 1).take 3 = en 3 s.length := by simp [en1, en3]
  rw [e, be_en, Nat.mod_eq_of_lt (by omega)]
  simp [en_length]
  omega

set_option maxRecDepth 100000 in
set_option maxHeartbeats 400000 in
theorem ckx_walk {s : List UInt8} {a0 : Option Addr} {len0 cap0 : Nat} (w : World) (hsl : s.length = len0) (hs : SrcB w w.heap.size (.slice a0 len0 cap0) s) :
    Calls Try.prog 4 #[.slice a0 len0 cap0] w fun e w' => e = .returned (.bool true) ∧ Below w.heap.size w w' := by
  subst hsl
  have HS := Lib.hid hs
  clear hs
  by_cases hbig : (s.length : Int) > 2147483647
  · go_enter Try.func4, Try.ntmps4
    go_wp2_with fail
    go_ret
    exact ⟨rfl, Below.refl _ _⟩
  · have hl : s.length ≤ 2147483647 := by omega
    go_enter Try.func4, Try.ntmps4
    go_wp2_with fail
    refine (writePlain_ok 16 w (by omega) HS.out (by omega)).mono ?_
    rintro e w1 ⟨v1, rfl, hown1, hB1⟩
    have HO1 := Lib.hid hown1
    have HB1 := Lib.hid hB1
    clear hown1 hB1
    by_cases hfit : 256 ^ 3 ≤ s.length
    · rw [decide_eq_true hfit]
      go_wp2_with fail
      refine (alive_ok w1).mono ?_
      rintro e w2 ⟨rfl, hB2⟩
      have HB2 := Lib.hid (HB1.out.trans (hB2.mono HB1.out.size))
      clear hB2
      go_wp2_with fail
      go_ret
      exact ⟨rfl, HB2.out⟩
    · rw [decide_eq_false hfit]
      have HS1 := Lib.hid ((HS.out.below HB1.out).keep (w' := w1) HB1.out.size (fun _ _ => rfl))
      have HT1 := Lib.hid (src_own (base := w1.heap.size) HO1.out (Nat.le_refl _))
      go_wp2_with fail
      refine (ckx_impl w1 HS1.out hl).mono ?_
      rintro e w2 ⟨v2, rfl, hown2, hB2⟩
      obtain ⟨C, g, hV, hg, hgb⟩ := view_own hown2 (by simp [en1])
      have HV := Lib.hid hV
      have HG := Lib.hid hg
      have HO2 := Lib.hid hown2
      have HB2 := Lib.hid hB2
      clear hV hg hown2 hB2
      go_wp2_with fail
      refine (cky_impl w2 HG.out HV.out (by simp [en_length]; omega) (hbe s (by omega))).mono ?_
      rintro e w3 ⟨v3, rfl, hV3, hB3⟩
      have hd : (en 1 16 ++ en 3 s.length ++ s).drop 4 = s := by simp [en1, en3]
      rw [hd] at hV3
      have hg3 := (hB3.block g (lt_of_heap HG.out)).trans HG.out
      have HV3 := Lib.hid (view_src hV3 hg3)
      have HA3 := Lib.hid ((src_own (base := w2.heap.size) HO2.out (Nat.le_refl _)).below hB3)
      have HT3 := Lib.hid ((HT1.out.below HB2.out).keep (w' := w3) HB2.out.size (fun k hk => hB3.block k (Nat.lt_of_lt_of_le hk HB2.out.size)))
      have HS3 := Lib.hid ((HS1.out.below HB2.out).keep (w' := w3) HB2.out.size (fun k hk => hB3.block k (Nat.lt_of_lt_of_le hk HB2.out.size)))
      have HB := Lib.hid (HB1.out.trans ((HB2.out.mono HB1.out.size).trans (hB3.mono (Nat.le_trans HB1.out.size HB2.out.size))))
      clear hV3 hg3 hB3 hd
      go_wp2_with fail
      refine (Same_ok w3 HA3.out.src HT3.out.src).mono ?_
      rintro e w4 ⟨rfl, rfl⟩
      rw [decide_eq_true rfl]
      go_wp2_with fail
      refine (Same_ok w4 HV3.out.src HS3.out.src).mono ?_
      rintro e w5 ⟨rfl, rfl⟩
      rw [decide_eq_true rfl]
      go_wp2_with fail
      go_ret
      exact ⟨rfl, HB.out⟩


end Go.Proofs.Ytopcljikkdlffaa
