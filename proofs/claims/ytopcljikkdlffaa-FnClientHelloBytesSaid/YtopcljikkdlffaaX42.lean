/- Bytes that came in, as the readers want them. The walk of the statement FnClientHelloRange. The walk of the statement FnClientHelloBytes. No statement of the seat is proved here. -/
import Derived.Test.YtopcljikkdlffaaX06
import Derived.Test.YtopcljikkdlffaaX14
import Derived.Test.YtopcljikkdlffaaX37
import Derived.Test.YtopcljikkdlffaaX38
import Derived.Test.YtopcljikkdlffaaX34
import Derived.Test.YtopcljikkdlffaaX05
import Derived.Test.YtopcljikkdlffaaX41
import Derived.Test.YtopcljikkdlffaaX26
namespace Go.Proofs.Ytopcljikkdlffaa
open Go.RowKit

theorem in_row {w : World} {a : Option Addr} {len cap : Nat} {zs : List Int}
    (h : (a = none ∧ len = 0 ∧ cap = 0 ∧ zs = []) ∨ ∃ x, a = some x ∧ len ≤ cap ∧ cap ≤ maxLen ∧ zs.length = cap ∧ (∀ i, i < zs.length → w.cell? (x.add i) = some (.int .u8 (zs.getD i 0))) ∧ ∀ n ∈ zs, (Lit.int .u8 n).wf = true) :
    ∃ s : List UInt8, s.length = len ∧ s.length ≤ maxLen ∧ InB w w.heap.size (.slice a len cap) s := by
  obtain ⟨s, hsl, hs⟩ := row_src h
  rcases h with ⟨rfl, rfl, rfl, rfl⟩ | ⟨x, rfl, hl, hm, hz, hc, hw⟩
  · exact ⟨s, hsl, by omega, .inl ⟨none, 0, by rw [hsl], by omega⟩⟩
  · refine ⟨s, hsl, by omega, ?_⟩
    by_cases h4 : s.length < 4
    · exact .inl ⟨some x, cap, by rw [hsl], h4⟩
    · have h0 := hc 0 (by omega)
      have hx : ∃ (C : Array Value) (T : TypeId) (fr : Nat × Nat), w.heap[x.block]? = some (.cells C T fr) ∧ x.spot = none := by
        rw [show x.add 0 = x from rfl] at h0
        unfold World.cell? at h0
        cases hb : w.heap[x.block]? with
        | none => rw [hb] at h0; cases h0
        | some ob =>
          rw [hb] at h0
          cases ob with
          | cells C T fr =>
            refine ⟨C, T, fr, rfl, ?_⟩
            cases hs : x.spot with
            | none => rfl
            | some y => simp [hs] at h0
          | _ => cases h0
      obtain ⟨C, T, fr, hh, hsp⟩ := hx
      obtain ⟨b, o, sp⟩ := x
      simp only at hh hsp
      subst hsp
      refine .inr ⟨by omega, C, b, T, fr, lt_of_heap hh, hh, o, cap, by rw [hsl], by omega, hm, fun i hi => ?_⟩
      rcases hs with ⟨e, _⟩ | ⟨y, c', e, _, hcy⟩
      · cases e
      · simp only [Value.slice.injEq, Option.some.injEq] at e
        obtain ⟨rfl, _, _⟩ := e
        have h := hcy i (by8 (s.getD i 0)) (by simp [hi])
        rw [add_plain, cell_of_heap hh] at h
        exact h

end Go.Proofs.Ytopcljikkdlffaa
namespace Go.Proofs.Ytopcljikkdlffaa
open Go.RowKit

theorem rch_range {bs : List UInt8} (h : (rch bs).2 = 2) : chRead bs = none := by
  rcases rch_same bs with ⟨f0, E, h1, _⟩ | ⟨_, h1⟩ | h1
  · rw [h1] at h; cases h
  · exact h1
  · omega

set_option maxRecDepth 100000 in
set_option maxHeartbeats 4000000 in
theorem chRange_walk {v : Value} {bs : List UInt8} (w : World) (hIn : InB w w.heap.size v bs) (hl : bs.length ≤ maxLen) :
    Calls Try.prog 9 #[v] w fun e w' => e = .returned (.bool true) ∧ Below w.heap.size w w' := by
  obtain ⟨ad, cap, rfl⟩ := hIn.slice
  unfold maxLen at hl
  have HIN := Lib.hid hIn
  clear hIn
  by_cases hbig : ((bs.length : Nat) : Int) > 2147483647
  · go_enter Try.func9, Try.ntmps9
    go_wp2_with fail
    go_ret
    exact ⟨rfl, Below.refl _ _⟩
  · go_enter Try.func9, Try.ntmps9
    go_wp2_with fail
    refine (rch_ok w HIN.out).mono ?_
    rintro e w1 ⟨D, rfl, hb1, hDs, hD1, _⟩
    have hiD : (Try.prog.info? 52).map (·.size) = some D.size := by rw [hDs]; kernel_rfl
    have hs0 : zero31.size = D.size := by rw [hDs]; rfl
    have HB1 := Lib.hid hb1
    clear hb1
    obtain ⟨code, hcode⟩ : ∃ c, c = (rch bs).2 := ⟨_, rfl⟩
    rw [← hcode]
    have HCODE := Lib.hid hcode
    clear hcode
    by_cases hc : code = 2
    · subst hc
      have HN := Lib.hid (rch_range HCODE.out.symm)
      dsimp only
      repeat (first | (with_reducible refine wpList_store_row rfl 52 (.tmp 3) (.tmp 13) rfl w1.heap.size D rfl rfl 52 zero31 (heap_alloc_new w1 _) hiD hs0 hD1 ?_) | go_step)
      obtain ⟨w2, hw2⟩ : ∃ x, x = (w1.alloc (.cells zero31 52)).setRow w1.heap.size D := ⟨_, rfl⟩
      change Calls _ _ _ ((w1.alloc (.cells zero31 52)).setRow w1.heap.size D) _
      rw [← hw2]
      have HB2 : Hid (Below w.heap.size w w2) := by rw [hw2]; exact below_setRow (HB1.out.alloc HB1.out.size _) HB1.out.size _
      clear hw2
      have hs2 := HB2.out.size
      refine (chg_impl w2 (HIN.out.up7 HB2.out (Nat.le_refl _)) hs2 (by omega)).mono ?_
      intro e w3 hgot
      have hb3 := hgot.1
      obtain ⟨D2, rfl, hD2s, hD21⟩ := hgot.val
      rw [HN.out]
      have hiD2 : (Try.prog.info? 52).map (·.size) = some D2.size := by rw [hD2s]; kernel_rfl
      have hs02 : zero31.size = D2.size := by rw [hD2s]; rfl
      have HB3 := Lib.hid (HB2.out.trans (hb3.mono hs2))
      clear hb3 hgot
      simp only [Option.isSome_none]
      repeat (first | (with_reducible refine wpList_store_row rfl 52 (.tmp 5) (.tmp 21) rfl w3.heap.size D2 rfl rfl 52 zero31 (heap_alloc_new w3 _) hiD2 hs02 hD21 ?_) | go_step)
      refine (alive_ok _).mono ?_
      rintro e w4 ⟨rfl, hb4⟩
      have HB4 := Lib.hid hb4
      clear hb4
      go_wp2_with fail
      go_ret
      refine ⟨rfl, (below_setRow (HB3.out.alloc HB3.out.size _) HB3.out.size _).trans (HB4.out.mono ?_)⟩
      have := HB3.out.size
      rw [size_setRow]; simp; omega
    · have hc2 : ¬ ((code : Nat) : Int) = 2 := by omega
      have hc3 : (((code : Nat) : Int) != 2) = true := by simp; omega
      clear hc
      dsimp only
      repeat (first | (with_reducible refine wpList_store_row rfl 52 (.tmp 3) (.tmp 13) rfl w1.heap.size D rfl rfl 52 zero31 (heap_alloc_new w1 _) hiD hs0 hD1 ?_) | go_step)
      refine (alive_ok _).mono ?_
      rintro e w4 ⟨rfl, hb4⟩
      have HB4 := Lib.hid hb4
      clear hb4
      go_wp2_with fail
      go_ret
      refine ⟨rfl, (below_setRow (HB1.out.alloc HB1.out.size _) HB1.out.size _).trans (HB4.out.mono ?_)⟩
      have := HB1.out.size
      rw [size_setRow]; simp; omega

end Go.Proofs.Ytopcljikkdlffaa
namespace Go.Proofs.Ytopcljikkdlffaa
open Go.RowKit

theorem wpList_yes {P : Program} {ops : Array Oper} {rest : List Oper} {o : Oper} {a : Act} {w : World} {Q : Exit → Act → World → Prop} (hw : Region.wanted o (yielded ops a.tmps) = true)
    (h : ∀ K : Act → World → Prop, (∀ a w, wpList P ops Q rest a w → K a w) → o.wp P a w K Q) : wpList P ops Q (o :: rest) a w :=
  wpList_step fun K hK => by simp only [hw, if_true]; exact h K hK

/-- The reference and package tls agree. -/
theorem ch_agree (bs : List UInt8) : ((rch bs).2 = 0 ∧ ∃ f0 E, (rch bs).1 = { f0 with exts := E } ∧ chRead bs = some f0) ∨ (((rch bs).2 = 3 ∨ (rch bs).2 = 4) ∧ chRead bs = none) ∨ ((rch bs).2 ≠ 0 ∧ (rch bs).2 ≠ 3 ∧ (rch bs).2 ≠ 4) := by
  rcases rch_same bs with ⟨f0, E, h1, h2⟩ | ⟨h1, h2⟩ | h1
  · rw [h1]; exact .inl ⟨rfl, f0, E, rfl, h2⟩
  · by_cases h3 : (rch bs).2 = 3 ∨ (rch bs).2 = 4
    · exact .inr (.inl ⟨h3, h2⟩)
    · exact .inr (.inr ⟨h1, fun e => h3 (.inl e), fun e => h3 (.inr e)⟩)
  · exact .inr (.inr (by omega))

set_option maxRecDepth 100000 in
set_option maxHeartbeats 4000000 in
theorem chBytes_walk {v : Value} {bs : List UInt8} (w : World) (hIn : InB w w.heap.size v bs) (hl : bs.length ≤ maxLen) :
    Calls Try.prog 8 #[v] w fun e w' => e = .returned (.bool true) ∧ Below w.heap.size w w' := by
  obtain ⟨ad, cap, rfl⟩ := hIn.slice
  unfold maxLen at hl
  have HIN := Lib.hid hIn
  clear hIn
  by_cases hbig : ((bs.length : Nat) : Int) > 2147483647
  · go_enter Try.func8, Try.ntmps8
    go_wp2_with fail
    go_ret
    exact ⟨rfl, Below.refl _ _⟩
  · go_enter Try.func8, Try.ntmps8
    go_wp2_with fail
    refine (rch_ok w HIN.out).mono ?_
    rintro e w1 ⟨D, rfl, hb1, hDs, hD1, hchv⟩
    have hiD : (Try.prog.info? 52).map (·.size) = some D.size := by rw [hDs]; kernel_rfl
    have hs0 : zero31.size = D.size := by rw [hDs]; rfl
    have HB1 := Lib.hid hb1
    have HCHV := Lib.hid hchv
    clear hb1 hchv
    obtain ⟨code, hcode⟩ : ∃ c, c = (rch bs).2 := ⟨_, rfl⟩
    rw [← hcode]
    have HCODE := Lib.hid hcode
    clear hcode
    dsimp only
    repeat (first | (with_reducible refine wpList_store_row rfl 52 (.tmp 3) (.tmp 13) rfl w1.heap.size D rfl rfl 52 zero31 (heap_alloc_new w1 _) hiD hs0 hD1 ?_) | go_step)
    obtain ⟨mB, hmB⟩ : ∃ x, x = w1.heap.size := ⟨_, rfl⟩
    obtain ⟨w2, hw2⟩ : ∃ x, x = (w1.alloc (.cells zero31 52)).setRow w1.heap.size D := ⟨_, rfl⟩
    change Calls _ _ _ ((w1.alloc (.cells zero31 52)).setRow w1.heap.size D) _
    rw [← hw2]
    have HB2 : Hid (Below w.heap.size w w2) := by rw [hw2]; exact below_setRow (HB1.out.alloc HB1.out.size _) HB1.out.size _
    have HM2 : Hid (w2.heap[mB]? = some (.cells D 52 (0, 0))) := Lib.hid (by rw [hw2, hmB]; exact setRow_heap _ _ _ _ _ _ (heap_alloc_new w1 _))
    have HK2 : Hid (∀ k, k < mB → w2.heap[k]? = w1.heap[k]?) := Lib.hid fun k hk => by rw [hw2]; exact (setRow_other _ _ _ _ (by omega)).trans (Below.heap_alloc _ _ _ (by omega))
    have HS2 : Hid (w2.heap.size = mB + 1) := Lib.hid (by rw [hw2, hmB, size_setRow]; simp)
    rw [← hmB]
    have HMB := Lib.hid hmB
    clear hw2 hmB
    have hs2 := HB2.out.size
    refine (chg_impl w2 (HIN.out.up7 HB2.out (Nat.le_refl _)) hs2 (by omega)).mono ?_
    intro e w3 hgot
    have HGOT := Lib.hid hgot.chs
    have HB3 := Lib.hid hgot.1
    obtain ⟨E, he, hEs, hE1⟩ := hgot.val
    obtain ⟨b, hb⟩ : ∃ b, b = (chRead bs).isSome := ⟨_, rfl⟩
    rw [← hb] at he
    subst he
    have HBB := Lib.hid hb
    have hiE : (Try.prog.info? 52).map (·.size) = some E.size := by rw [hEs]; kernel_rfl
    have hs02 : zero31.size = E.size := by rw [hEs]; rfl
    clear hgot hb hs2
    dsimp only
    obtain ⟨gB, hgB⟩ : ∃ x, x = w3.heap.size := ⟨_, rfl⟩
    obtain ⟨w4, hw4⟩ : ∃ x, x = (w3.alloc (.cells zero31 52)).setRow w3.heap.size E := ⟨_, rfl⟩
    have HB4 : Hid (Below w.heap.size w w4) := Lib.hid (by
      have h3 := HB2.out.trans (HB3.out.mono HB2.out.size)
      rw [hw4]; exact below_setRow (h3.alloc h3.size _) h3.size _)
    have HG4 : Hid (w4.heap[gB]? = some (.cells E 52 (0, 0))) := Lib.hid (by rw [hw4, hgB]; exact setRow_heap _ _ _ _ _ _ (heap_alloc_new w3 _))
    have HK4 : Hid (∀ k, k < gB → w4.heap[k]? = w3.heap[k]?) := Lib.hid fun k hk => by rw [hw4]; exact (setRow_other _ _ _ _ (by omega)).trans (Below.heap_alloc _ _ _ (by omega))
    have HS4 : Hid (w4.heap.size = gB + 1) := Lib.hid (by rw [hw4, hgB, size_setRow]; simp)
    have HGB := Lib.hid hgB
    have HM4 : Hid (w4.heap[mB]? = some (.cells D 52 (0, 0))) := Lib.hid (by
      have h1 := HS2.out
      have h2 := HB3.out.size
      rw [HK4.out mB (by omega), HB3.out.block mB (by omega)]; exact HM2.out)
    have HW4 := Lib.hid hw4
    clear hw4 hgB
    go_upto_region 5 with (with_reducible refine wpList_store_row rfl 52 (.tmp 5) (.tmp 18) rfl w3.heap.size E rfl rfl 52 zero31 (heap_alloc_new w3 _) hiE hs02 hE1 ?_)
    change Code.wp _ _ _ _ ((w3.alloc (.cells zero31 52)).setRow w3.heap.size E)
    rw [← HW4.out, ← HGB.out]
    rcases ch_agree bs with ⟨h0, f0, E0, hf, hy⟩ | ⟨h34, hno⟩ | ⟨n0, n3, n4⟩
    · have hb : b = true := by rw [HBB.out, hy]; rfl
      subst hb
      have hc : code = 0 := HCODE.out.trans h0
      subst hc
      have HE4 : Hid (ChS w4 w4.heap.size f0 E) := Lib.hid (by
        rcases HGOT.out with ⟨hn, _⟩ | ⟨f, D', hy2, he, hs⟩
        · rw [hn] at hy; cases hy
        · rw [hy] at hy2
          cases hy2
          simp only [Ending.returned.injEq, Value.tuple.injEq, Array.mk.injEq, List.cons.injEq, Value.agg.injEq, and_true] at he
          rw [he]
          have h1 := HS4.out
          have h2 := HGB.out
          exact hs.keep (by omega) fun k hk => HK4.out k (by omega))
      have HD4 : Hid (ChS w4 w4.heap.size f0 D) := Lib.hid (by
        obtain ⟨C, g, base, _, _, hv⟩ := HCHV.out h0
        rw [hf] at hv
        have h1 := HS2.out
        have h2 := HB3.out.size
        have h3 := HS4.out
        have h4 := HGB.out
        have h5 := HMB.out
        refine (chs_of_rv hv (Nat.le_refl _)).exts.keep (by omega) fun k hk => ?_
        rw [HK4.out k (by omega), HB3.out.block k (by omega), HK2.out k (by omega)])
      have HFI := Lib.hid (chRead_fine hy)
      have HMO := Lib.hid (chRead_most hy)
      clear hy hf h0
      go_wp2_with (first | (with_reducible refine wpList_yes rfl (fun K hK => wp_load_row 52 (.tmp 5) rfl gB rfl 52 E (0, 0) _ HG4.out Try.underlying52 rfl hiE (hK _ _ ?_))) | (with_reducible refine wpList_yes rfl (fun K hK => wp_load_row 52 (.tmp 3) rfl mB rfl 52 D (0, 0) _ HM4.out Try.underlying52 rfl hiD (hK _ _ ?_))))
      refine (sameHello_ok w4 (Nat.le_refl _) HE4.out HD4.out HFI.out HMO.out).mono ?_
      rintro e w5 ⟨rfl, hb5⟩
      have HB5 := Lib.hid hb5
      clear hb5
      go_wp2_with fail
      go_ret
      exact ⟨rfl, HB4.out.trans (HB5.out.mono HB4.out.size)⟩
    · have hb : b = false := by rw [HBB.out, hno]; rfl
      subst hb
      rw [← HCODE.out] at h34
      clear hno
      rcases h34 with rfl | rfl
      · go_wp2_with fail
        refine (alive_ok _).mono ?_
        rintro e w5 ⟨rfl, hb5⟩
        have HB5 := Lib.hid hb5
        clear hb5
        go_wp2_with fail
        go_ret
        exact ⟨rfl, HB4.out.trans (HB5.out.mono HB4.out.size)⟩
      · go_wp2_with fail
        refine (alive_ok _).mono ?_
        rintro e w5 ⟨rfl, hb5⟩
        have HB5 := Lib.hid hb5
        clear hb5
        go_wp2_with fail
        go_ret
        exact ⟨rfl, HB4.out.trans (HB5.out.mono HB4.out.size)⟩
    · rw [← HCODE.out] at n0 n3 n4
      have c0 : ¬ ((code : Nat) : Int) = 0 := by omega
      have c3 : ¬ ((code : Nat) : Int) = 3 := by omega
      have c4 : ¬ ((code : Nat) : Int) = 4 := by omega
      have b0 : (((code : Nat) : Int) == 0) = false := by simp; omega
      have b3 : (((code : Nat) : Int) == 3) = false := by simp; omega
      have b4 : (((code : Nat) : Int) == 4) = false := by simp; omega
      go_wp2_with fail
      refine (alive_ok _).mono ?_
      rintro e w5 ⟨rfl, hb5⟩
      have HB5 := Lib.hid hb5
      clear hb5
      go_wp2_with fail
      go_ret
      exact ⟨rfl, HB4.out.trans (HB5.out.mono HB4.out.size)⟩

end Go.Proofs.Ytopcljikkdlffaa
