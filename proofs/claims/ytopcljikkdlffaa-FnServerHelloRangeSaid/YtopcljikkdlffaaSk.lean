/- The walk of the statement FnServerHelloRange. -/
import Derived.Test.YtopcljikkdlffaaSh
import Derived.Test.YtopcljikkdlffaaSj
import Derived.Test.YtopcljikkdlffaaIb
namespace Go.Proofs.Ytopcljikkdlffaa
open Go.RowKit

theorem InB.up {w w' : World} {lo hi : Nat} {v : Value} {bs : List UInt8} (h : InB w lo v bs) (hb : Below lo w w') (hh : lo ≤ hi) : InB w' hi v bs := by
  rcases h with h | ⟨h4, C, g, T, fr, hl, hg, hv⟩
  · exact .inl h
  · exact .inr ⟨h4, C, g, T, fr, by omega, (hb.block g hl).trans hg, hv⟩

set_option maxRecDepth 100000 in
set_option maxHeartbeats 4000000 in
theorem shRange_walk {v : Value} {bs : List UInt8} (w : World) (hIn : InB w w.heap.size v bs) (hl : bs.length ≤ maxLen) :
    Calls Try.prog 6 #[v] w fun e w' => e = .returned (.bool true) ∧ Below w.heap.size w w' := by
  obtain ⟨ad, cap, rfl⟩ := hIn.slice
  unfold maxLen at hl
  have HIN := Lib.hid hIn
  clear hIn
  by_cases hbig : ((bs.length : Nat) : Int) > 2147483647
  · go_enter Try.func6, Try.ntmps6
    go_wp2_with fail
    go_ret
    exact ⟨rfl, Below.refl _ _⟩
  · go_enter Try.func6, Try.ntmps6
    go_wp2_with fail
    refine (rsh_ok w HIN.out).mono ?_
    rintro e w1 ⟨D, code, rfl, hend, hb1, hDs, hD1⟩
    have hiD : (Try.prog.info? 37).map (·.size) = some D.size := by rw [hDs]; kernel_rfl
    have hs0 : zero22.size = D.size := by rw [hDs]; rfl
    have HEND := Lib.hid hend
    have HB1 := Lib.hid hb1
    clear hend hb1
    by_cases hc : code = 2
    · subst hc
      have HN := Lib.hid (sh_range HEND.out)
      dsimp only
      repeat (first | (with_reducible refine wpList_store_row rfl 37 (.tmp 3) (.tmp 13) rfl w1.heap.size D rfl rfl 37 zero22 (heap_alloc_new w1 _) hiD hs0 hD1 ?_) | go_step)
      obtain ⟨w2, hw2⟩ : ∃ x, x = (w1.alloc (.cells zero22 37)).setRow w1.heap.size D := ⟨_, rfl⟩
      change Calls _ _ _ ((w1.alloc (.cells zero22 37)).setRow w1.heap.size D) _
      rw [← hw2]
      have HB2 : Hid (Below w.heap.size w w2) := by rw [hw2]; exact below_setRow (HB1.out.alloc HB1.out.size _) HB1.out.size _
      clear hw2
      have hs2 := HB2.out.size
      refine (shu_impl_no w2 (HIN.out.up HB2.out hs2) HN.out).mono ?_
      rintro e w3 ⟨hb3, D2, rfl, hD2s, hD21⟩
      have hiD2 : (Try.prog.info? 37).map (·.size) = some D2.size := by rw [hD2s]; kernel_rfl
      have hs02 : zero22.size = D2.size := by rw [hD2s]; rfl
      have HB3 := Lib.hid (HB2.out.trans (hb3.mono hs2))
      clear hb3
      dsimp only
      repeat (first | (with_reducible refine wpList_store_row rfl 37 (.tmp 5) (.tmp 21) rfl w3.heap.size D2 rfl rfl 37 zero22 (heap_alloc_new w3 _) hiD2 hs02 hD21 ?_) | go_step)
      refine (alive_ok _).mono ?_
      rintro e w4 ⟨rfl, hb4⟩
      have HB4 := Lib.hid hb4
      clear hb4
      go_wp2_with fail
      go_ret
      refine ⟨rfl, (below_setRow (HB3.out.alloc HB3.out.size _) HB3.out.size _).trans (HB4.out.mono ?_)⟩
      have := HB3.out.size
      rw [size_setRow]; simp; omega
    · have hc2 : ¬ ((code : Nat) : Int) = 2 := by omega
      have hc3 : (((code : Nat) : Int) != 2) = true := by simp; omega
      clear hc
      dsimp only
      repeat (first | (with_reducible refine wpList_store_row rfl 37 (.tmp 3) (.tmp 13) rfl w1.heap.size D rfl rfl 37 zero22 (heap_alloc_new w1 _) hiD hs0 hD1 ?_) | go_step)
      refine (alive_ok _).mono ?_
      rintro e w4 ⟨rfl, hb4⟩
      have HB4 := Lib.hid hb4
      clear hb4
      go_wp2_with fail
      go_ret
      refine ⟨rfl, (below_setRow (HB1.out.alloc HB1.out.size _) HB1.out.size _).trans (HB4.out.mono ?_)⟩
      have := HB1.out.size
      rw [size_setRow]; simp; omega

end Go.Proofs.Ytopcljikkdlffaa
