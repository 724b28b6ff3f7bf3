/- Bytes that came in, as the readers want them. The walk of the statement FnClientHelloAgain. No statement of the seat is proved here. -/
import Derived.Test.YtopcljikkdlffaaGreatX05
import Derived.Test.YtopcljikkdlffaaGreatX07
import Derived.Test.YtopcljikkdlffaaGreatX31
import Derived.Test.YtopcljikkdlffaaGreatX32
import Derived.Test.YtopcljikkdlffaaGreatX34
import Derived.Test.YtopcljikkdlffaaGreatX24
namespace Go.Proofs.YtopcljikkdlffaaGreat
open Go.RowKit

theorem in_row {w : World} {a : Option Addr} {len cap : Nat} {zs : List Int}
    (h : (a = none ∧ len = 0 ∧ cap = 0 ∧ zs = []) ∨ ∃ x, a = some x ∧ len ≤ cap ∧ cap ≤ maxLen ∧ zs.length = cap ∧ (∀ i, i < zs.length → w.cell? (x.add i) = some (.int .u8 (zs.getD i 0))) ∧ ∀ n ∈ zs, (Lit.int .u8 n).wf = true) :
    ∃ s : List UInt8, s.length = len ∧ s.length ≤ maxLen ∧ InB w w.heap.size (.slice a len cap) s := by
  obtain ⟨s, hsl, hs⟩ := row_src h
  rcases h with ⟨rfl, rfl, rfl, rfl⟩ | ⟨x, rfl, hl, hm, hz, hc, hw⟩
  · exact ⟨s, hsl, by omega, .inl ⟨none, 0, by rw [hsl], by omega⟩⟩
  · refine ⟨s, hsl, by omega, ?_⟩
    by_cases h4 : s.length < 4
    · exact .inl ⟨some x, cap, by rw [hsl], h4⟩
    · have h0 := hc 0 (by omega)
      have hx : ∃ (C : Array Value) (T : TypeId) (fr : Nat × Nat), w.heap[x.block]? = some (.cells C T fr) ∧ x.spot = none := by
        rw [show x.add 0 = x from rfl] at h0
        unfold World.cell? at h0
        cases hb : w.heap[x.block]? with
        | none => rw [hb] at h0; cases h0
        | some ob =>
          rw [hb] at h0
          cases ob with
          | cells C T fr =>
            refine ⟨C, T, fr, rfl, ?_⟩
            cases hs : x.spot with
            | none => rfl
            | some y => simp [hs] at h0
          | _ => cases h0
      obtain ⟨C, T, fr, hh, hsp⟩ := hx
      obtain ⟨b, o, sp⟩ := x
      simp only at hh hsp
      subst hsp
      refine .inr ⟨by omega, C, b, T, fr, lt_of_heap hh, hh, o, cap, by rw [hsl], by omega, hm, fun i hi => ?_⟩
      rcases hs with ⟨e, _⟩ | ⟨y, c', e, _, hcy⟩
      · cases e
      · simp only [Value.slice.injEq, Option.some.injEq] at e
        obtain ⟨rfl, _, _⟩ := e
        have h := hcy i (by8 (s.getD i 0)) (by simp [hi])
        rw [add_plain, cell_of_heap hh] at h
        exact h

end Go.Proofs.YtopcljikkdlffaaGreat
namespace Go.Proofs.YtopcljikkdlffaaGreat
open Go.RowKit

theorem wpList_yesZ {P : Program} {ops : Array Oper} {rest : List Oper} {o : Oper} {a : Act} {w : World} {Q : Exit → Act → World → Prop} (hw : Region.wanted o (yielded ops a.tmps) = true)
    (h : ∀ K : Act → World → Prop, (∀ a w, wpList P ops Q rest a w → K a w) → o.wp P a w K Q) : wpList P ops Q (o :: rest) a w :=
  wpList_step fun K hK => by simp only [hw, if_true]; exact h K hK

set_option maxRecDepth 100000 in
set_option maxHeartbeats 8000000 in
theorem chAgain_walk {v : Value} {bs : List UInt8} (w : World) (hIn : InB w w.heap.size v bs) (hl : bs.length ≤ maxLen) :
    Calls Tryz.prog 3 #[v] w fun e w' => e = .returned (.bool true) ∧ Below w.heap.size w w' := by
  obtain ⟨ad, cap, rfl⟩ := hIn.slice
  unfold maxLen at hl
  have HIN := Lib.hid hIn
  clear hIn
  by_cases hbig : ((bs.length : Nat) : Int) > 2147483647
  · go_enter Tryz.func3, Tryz.ntmps3
    go_wp2_with fail
    go_ret
    exact ⟨rfl, Below.refl _ _⟩
  · go_enter Tryz.func3, Tryz.ntmps3
    go_wp2_with fail
    refine (chg_impl w HIN.out (Nat.le_refl _) (by omega)).mono ?_
    intro e w1 hgot
    have hb1 := hgot.1
    have hcs := hgot.chs
    obtain ⟨D, he, hDs, hD1⟩ := hgot.val
    obtain ⟨b, hb⟩ : ∃ b, b = (chRead bs).isSome := ⟨_, rfl⟩
    rw [← hb] at he
    subst he
    have hiD : (Tryz.prog.info? 29).map (·.size) = some D.size := by rw [hDs]; kernel_rfl
    have hs0 : zero31.size = D.size := by rw [hDs]; rfl
    obtain ⟨mB, hmB⟩ : ∃ x, x = w1.heap.size := ⟨_, rfl⟩
    obtain ⟨w2, hw2⟩ : ∃ x, x = (w1.alloc (.cells zero31 29)).setRow w1.heap.size D := ⟨_, rfl⟩
    have hb2 : Below w.heap.size w w2 := by rw [hw2]; exact below_setRow (hb1.alloc hb1.size _) hb1.size _
    have hm2 : w2.heap[mB]? = some (.cells D 29 (0, 0)) := by rw [hw2, hmB]; exact setRow_heap _ _ _ _ _ _ (heap_alloc_new w1 _)
    have hk2 : ∀ k, k < w1.heap.size → w2.heap[k]? = w1.heap[k]? := fun k hk => by rw [hw2]; exact (setRow_other _ _ _ _ (by omega)).trans (Below.heap_alloc _ _ _ hk)
    have hs2 : w2.heap.size = mB + 1 := by rw [hw2, hmB, size_setRow]; simp
    have HC : Hid ((chRead bs = none ∧ b = false) ∨ ∃ f, chRead bs = some f ∧ b = true ∧ ChS w2 w2.heap.size f D) := Lib.hid (by
      rcases hcs with ⟨hno, _⟩ | ⟨f, D', hy, he, hv⟩
      · exact .inl ⟨hno, by rw [hb, hno]; rfl⟩
      · simp only [Ending.returned.injEq, Value.tuple.injEq, Array.mk.injEq, List.cons.injEq, Value.agg.injEq, Value.bool.injEq, and_true] at he
        obtain ⟨rfl, e2⟩ := he
        exact .inr ⟨f, hy, e2, hv.keep (by omega) hk2⟩)
    have HB2 := Lib.hid hb2
    have HM2 := Lib.hid hm2
    have HW2 := Lib.hid hw2
    have HS2 := Lib.hid hs2
    have HMB := Lib.hid hmB
    clear hgot hcs hb hb1 hb2 hm2 hw2 hk2 hs2 hmB
    go_upto_region 4 with (with_reducible refine wpList_store_row rfl 29 (.tmp 3) (.tmp 15) rfl w1.heap.size D rfl rfl 29 zero31 (heap_alloc_new w1 _) hiD hs0 hD1 ?_)
    change Code.wp _ _ _ _ ((w1.alloc (.cells zero31 29)).setRow w1.heap.size D)
    rw [← HW2.out, ← HMB.out]
    rcases HC.out with ⟨_, rfl⟩ | ⟨f, hy, rfl, hV⟩
    · go_wp2_with fail
      refine (alive_ok _).mono ?_
      rintro e w4 ⟨rfl, hb4⟩
      have HB4 := Lib.hid hb4
      clear hb4
      go_wp2_with fail
      go_ret
      exact ⟨rfl, HB2.out.trans (HB4.out.mono HB2.out.size)⟩
    · have HY := Lib.hid hy
      have HV := Lib.hid hV
      obtain ⟨a29, c29, q29⟩ : ∃ a c, w2.cell? ⟨mB, 29, none⟩ = some (.slice a f.ech.length c) := by
        obtain ⟨v, hv, hr⟩ := hV.rel 29 _ rfl
        obtain ⟨a, c, rfl⟩ := SrcB.len hr
        exact ⟨a, c, by rw [cell_of_heap HM2.out]; exact hv⟩
      obtain ⟨a24, c24, q24⟩ : ∃ a c, w2.cell? ⟨mB, 24, none⟩ = some (.slice a f.psks.length c) := by
        obtain ⟨v, hv, hr⟩ := hV.rel 24 _ rfl
        obtain ⟨a, c, rfl, _⟩ := SrcL.len hr
        rw [List.length_map] at hv
        exact ⟨a, c, by rw [cell_of_heap HM2.out]; exact hv⟩
      clear hy hV
      by_cases hlong : ((bs.length : Nat) : Int) > 60000
      · go_wp2_with fail
        refine (alive_ok _).mono ?_
        rintro e w4 ⟨rfl, hb4⟩
        have HB4 := Lib.hid hb4
        clear hb4
        go_wp2_with fail
        go_ret
        exact ⟨rfl, HB2.out.trans (HB4.out.mono HB2.out.size)⟩
      · by_cases hboth : 0 < f.ech.length ∧ 0 < f.psks.length
        · obtain ⟨h1, h2⟩ := hboth
          have h3 : (0 : Int) < ((f.ech.length : Nat) : Int) := by omega
          have h4 : (0 : Int) < ((f.psks.length : Nat) : Int) := by omega
          go_wp2_with fail
          refine (alive_ok _).mono ?_
          rintro e w4 ⟨rfl, hb4⟩
          have HB4 := Lib.hid hb4
          clear hb4
          go_wp2_with fail
          go_ret
          exact ⟨rfl, HB2.out.trans (HB4.out.mono HB2.out.size)⟩
        · have hg : f.ech = [] ∨ f.psks = [] := by
            by_cases h1 : 0 < f.ech.length
            · right
              exact List.length_eq_zero_iff.1 (by omega)
            · left
              exact List.length_eq_zero_iff.1 (by omega)
          obtain ⟨hR, hcost⟩ := chRead_ok HY.out
          have HK : Hid (ChK f) := Lib.hid ⟨hR, by omega, hg⟩
          obtain ⟨hag, hl4, hlm⟩ := ch_again hR (by omega)
          have HAG := Lib.hid hag
          have HFI := Lib.hid (chRead_fine HY.out)
          have HMO := Lib.hid (chRead_most HY.out)
          clear hR hcost hag
          obtain ⟨N, hN⟩ : ∃ N, N = wCH f := ⟨_, rfl⟩
          have HN := Lib.hid hN
          rw [← hN] at hl4 hlm
          clear hN
          have tail : ∀ w2', w2' = w2 → True := fun _ _ => trivial
          clear tail
          have hor : ¬ 0 < f.ech.length ∨ (0 < f.ech.length ∧ ¬ 0 < f.psks.length) := by
            by_cases h1 : 0 < f.ech.length
            · exact .inr ⟨h1, fun h2 => hboth ⟨h1, h2⟩⟩
            · exact .inl h1
          clear hboth hg
          rcases hor with h1 | ⟨h1, h2⟩
          · have h3 : ¬ (0 : Int) < ((f.ech.length : Nat) : Int) := by omega
            go_upto_region 6 with fail
            apply wp_region_lit
            repeat (first | (with_reducible refine wpList_load_row rfl 29 (.tmp 3) rfl mB rfl 29 D (0, 0) _ HM2.out Tryz.underlying29 rfl hiD ?_) | go_step)
            refine (chm_impl w2 HK.out (Nat.le_refl _) HV.out).mono ?_
            rintro e w3 ⟨vb, rfl, hown, hb3⟩
            obtain ⟨ab, cb, rfl⟩ := row_slice hown
            rw [← HN.out] at hown
            rw [← HN.out]
            have HIN3 := Lib.hid (inB_own hown hl4 (Nat.le_refl _))
            have HB3 := Lib.hid (HB2.out.trans (hb3.mono HB2.out.size))
            have HD3 := Lib.hid (HV.out.keep hb3.size hb3.block)
            have HM3 : Hid (w3.heap[mB]? = some (.cells D 29 (0, 0))) := Lib.hid ((hb3.block mB (by have := HS2.out; omega)).trans HM2.out)
            clear hown hb3
            go_wp2_with fail
            refine (chg_impl w3 HIN3.out (Nat.le_refl _) (by omega)).mono ?_
            intro e w4 hgot
            have hb4 := hgot.1
            have hcs := hgot.chs
            obtain ⟨E, he, hEs, hE1⟩ := hgot.val
            rw [HN.out] at he hcs
            obtain ⟨EX, hag⟩ := HAG.out
            rw [hag] at he
            simp only [Option.isSome_some] at he
            subst he
            have hiE : (Tryz.prog.info? 29).map (·.size) = some E.size := by rw [hEs]; kernel_rfl
            have hs1 : zero31.size = E.size := by rw [hEs]; rfl
            have HE4 : Hid (ChS w4 w4.heap.size f E) := Lib.hid (by
              rcases hcs with ⟨hn, _⟩ | ⟨f', D', hy2, he, hs⟩
              · rw [hag] at hn; cases hn
              · rw [hag] at hy2
                cases hy2
                simp only [Ending.returned.injEq, Value.tuple.injEq, Array.mk.injEq, List.cons.injEq, Value.agg.injEq, and_true] at he
                rw [he]
                exact hs.exts)
            obtain ⟨gB, hgB⟩ : ∃ x, x = w4.heap.size := ⟨_, rfl⟩
            obtain ⟨w5, hw5⟩ : ∃ x, x = (w4.alloc (.cells zero31 29)).setRow w4.heap.size E := ⟨_, rfl⟩
            have hk5 : ∀ k, k < w4.heap.size → w5.heap[k]? = w4.heap[k]? := fun k hk => by rw [hw5]; exact (setRow_other _ _ _ _ (by omega)).trans (Below.heap_alloc _ _ _ hk)
            have HB4 := Lib.hid (HB3.out.trans (hb4.mono HB3.out.size))
            have HB5 : Hid (Below w.heap.size w w5) := Lib.hid (by rw [hw5]; exact below_setRow (HB4.out.alloc HB4.out.size _) HB4.out.size _)
            have hs5 : w5.heap.size = gB + 1 := by rw [hw5, hgB, size_setRow]; simp
            have HG5 : Hid (w5.heap[gB]? = some (.cells E 29 (0, 0))) := Lib.hid (by rw [hw5, hgB]; exact setRow_heap _ _ _ _ _ _ (heap_alloc_new w4 _))
            have hm3l := lt_of_heap HM3.out
            have hsz4 := hb4.size
            have HM5 : Hid (w5.heap[mB]? = some (.cells D 29 (0, 0))) := Lib.hid ((hk5 mB (by omega)).trans ((hb4.block mB hm3l).trans HM3.out))
            have HE5 : Hid (ChS w5 w5.heap.size f E) := Lib.hid (HE4.out.keep (by omega) hk5)
            have HD5 : Hid (ChS w5 w5.heap.size f D) := Lib.hid (HD3.out.keep (by omega) fun k hk => (hk5 k (by omega)).trans (hb4.block k hk))
            have HW5 := Lib.hid hw5
            have HGB := Lib.hid hgB
            clear hgot hb4 hcs hag hk5 hs5 hw5 hgB hm3l hsz4
            dsimp only
            go_upto_region 8 with (with_reducible refine wpList_store_row rfl 29 (.tmp 7) (.tmp 45) rfl w4.heap.size E rfl rfl 29 zero31 (heap_alloc_new w4 _) hiE hs1 hE1 ?_)
            change Code.wp _ _ _ _ ((w4.alloc (.cells zero31 29)).setRow w4.heap.size E)
            rw [← HW5.out, ← HGB.out]
            go_wp2_with (first | (with_reducible refine wpList_yesZ rfl (fun K hK => wp_load_row 29 (.tmp 7) rfl gB rfl 29 E (0, 0) _ HG5.out Tryz.underlying29 rfl hiE (hK _ _ ?_))) | (with_reducible refine wpList_yesZ rfl (fun K hK => wp_load_row 29 (.tmp 3) rfl mB rfl 29 D (0, 0) _ HM5.out Tryz.underlying29 rfl hiD (hK _ _ ?_))))
            refine (sameHello_ok w5 (Nat.le_refl _) HE5.out HD5.out HFI.out HMO.out).mono ?_
            rintro e w6 ⟨rfl, hb6⟩
            have HB6 := Lib.hid hb6
            clear hb6
            go_wp2_with fail
            go_ret
            exact ⟨rfl, HB5.out.trans (HB6.out.mono HB5.out.size)⟩
          · have h3 : (0 : Int) < ((f.ech.length : Nat) : Int) := by omega
            have h4 : ¬ (0 : Int) < ((f.psks.length : Nat) : Int) := by omega
            go_upto_region 6 with fail
            apply wp_region_lit
            repeat (first | (with_reducible refine wpList_load_row rfl 29 (.tmp 3) rfl mB rfl 29 D (0, 0) _ HM2.out Tryz.underlying29 rfl hiD ?_) | go_step)
            refine (chm_impl w2 HK.out (Nat.le_refl _) HV.out).mono ?_
            rintro e w3 ⟨vb, rfl, hown, hb3⟩
            obtain ⟨ab, cb, rfl⟩ := row_slice hown
            rw [← HN.out] at hown
            rw [← HN.out]
            have HIN3 := Lib.hid (inB_own hown hl4 (Nat.le_refl _))
            have HB3 := Lib.hid (HB2.out.trans (hb3.mono HB2.out.size))
            have HD3 := Lib.hid (HV.out.keep hb3.size hb3.block)
            have HM3 : Hid (w3.heap[mB]? = some (.cells D 29 (0, 0))) := Lib.hid ((hb3.block mB (by have := HS2.out; omega)).trans HM2.out)
            clear hown hb3
            go_wp2_with fail
            refine (chg_impl w3 HIN3.out (Nat.le_refl _) (by omega)).mono ?_
            intro e w4 hgot
            have hb4 := hgot.1
            have hcs := hgot.chs
            obtain ⟨E, he, hEs, hE1⟩ := hgot.val
            rw [HN.out] at he hcs
            obtain ⟨EX, hag⟩ := HAG.out
            rw [hag] at he
            simp only [Option.isSome_some] at he
            subst he
            have hiE : (Tryz.prog.info? 29).map (·.size) = some E.size := by rw [hEs]; kernel_rfl
            have hs1 : zero31.size = E.size := by rw [hEs]; rfl
            have HE4 : Hid (ChS w4 w4.heap.size f E) := Lib.hid (by
              rcases hcs with ⟨hn, _⟩ | ⟨f', D', hy2, he, hs⟩
              · rw [hag] at hn; cases hn
              · rw [hag] at hy2
                cases hy2
                simp only [Ending.returned.injEq, Value.tuple.injEq, Array.mk.injEq, List.cons.injEq, Value.agg.injEq, and_true] at he
                rw [he]
                exact hs.exts)
            obtain ⟨gB, hgB⟩ : ∃ x, x = w4.heap.size := ⟨_, rfl⟩
            obtain ⟨w5, hw5⟩ : ∃ x, x = (w4.alloc (.cells zero31 29)).setRow w4.heap.size E := ⟨_, rfl⟩
            have hk5 : ∀ k, k < w4.heap.size → w5.heap[k]? = w4.heap[k]? := fun k hk => by rw [hw5]; exact (setRow_other _ _ _ _ (by omega)).trans (Below.heap_alloc _ _ _ hk)
            have HB4 := Lib.hid (HB3.out.trans (hb4.mono HB3.out.size))
            have HB5 : Hid (Below w.heap.size w w5) := Lib.hid (by rw [hw5]; exact below_setRow (HB4.out.alloc HB4.out.size _) HB4.out.size _)
            have hs5 : w5.heap.size = gB + 1 := by rw [hw5, hgB, size_setRow]; simp
            have HG5 : Hid (w5.heap[gB]? = some (.cells E 29 (0, 0))) := Lib.hid (by rw [hw5, hgB]; exact setRow_heap _ _ _ _ _ _ (heap_alloc_new w4 _))
            have hm3l := lt_of_heap HM3.out
            have hsz4 := hb4.size
            have HM5 : Hid (w5.heap[mB]? = some (.cells D 29 (0, 0))) := Lib.hid ((hk5 mB (by omega)).trans ((hb4.block mB hm3l).trans HM3.out))
            have HE5 : Hid (ChS w5 w5.heap.size f E) := Lib.hid (HE4.out.keep (by omega) hk5)
            have HD5 : Hid (ChS w5 w5.heap.size f D) := Lib.hid (HD3.out.keep (by omega) fun k hk => (hk5 k (by omega)).trans (hb4.block k hk))
            have HW5 := Lib.hid hw5
            have HGB := Lib.hid hgB
            clear hgot hb4 hcs hag hk5 hs5 hw5 hgB hm3l hsz4
            dsimp only
            go_upto_region 8 with (with_reducible refine wpList_store_row rfl 29 (.tmp 7) (.tmp 45) rfl w4.heap.size E rfl rfl 29 zero31 (heap_alloc_new w4 _) hiE hs1 hE1 ?_)
            change Code.wp _ _ _ _ ((w4.alloc (.cells zero31 29)).setRow w4.heap.size E)
            rw [← HW5.out, ← HGB.out]
            go_wp2_with (first | (with_reducible refine wpList_yesZ rfl (fun K hK => wp_load_row 29 (.tmp 7) rfl gB rfl 29 E (0, 0) _ HG5.out Tryz.underlying29 rfl hiE (hK _ _ ?_))) | (with_reducible refine wpList_yesZ rfl (fun K hK => wp_load_row 29 (.tmp 3) rfl mB rfl 29 D (0, 0) _ HM5.out Tryz.underlying29 rfl hiD (hK _ _ ?_))))
            refine (sameHello_ok w5 (Nat.le_refl _) HE5.out HD5.out HFI.out HMO.out).mono ?_
            rintro e w6 ⟨rfl, hb6⟩
            have HB6 := Lib.hid hb6
            clear hb6
            go_wp2_with fail
            go_ret
            exact ⟨rfl, HB5.out.trans (HB6.out.mono HB5.out.size)⟩
end Go.Proofs.YtopcljikkdlffaaGreat
