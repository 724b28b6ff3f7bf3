/- The walk of the statement FnClientHelloRange. No statement of the seat is proved here. -/
import Derived.Test.YtopcljikkdlffaaX35
import Derived.Test.YtopcljikkdlffaaX36
import Derived.Test.YtopcljikkdlffaaX32
import Derived.Test.YtopcljikkdlffaaX05
namespace Go.Proofs.Ytopcljikkdlffaa
open Go.RowKit

theorem rch_range {bs : List UInt8} (h : (rch bs).2 = 2) : chRead bs = none := by
  rcases rch_same bs with ⟨f0, E, h1, _⟩ | ⟨_, h1⟩ | h1
  · rw [h1] at h; cases h
  · exact h1
  · omega

set_option maxRecDepth 100000 in
set_option maxHeartbeats 4000000 in
theorem chRange_walk {v : Value} {bs : List UInt8} (w : World) (hIn : InB w w.heap.size v bs) (hl : bs.length ≤ maxLen) :
    Calls Try.prog 9 #[v] w fun e w' => e = .returned (.bool true) ∧ Below w.heap.size w w' := by
  obtain ⟨ad, cap, rfl⟩ := hIn.slice
  unfold maxLen at hl
  have HIN := Lib.hid hIn
  clear hIn
  by_cases hbig : ((bs.length : Nat) : Int) > 2147483647
  · go_enter Try.func9, Try.ntmps9
    go_wp2_with fail
    go_ret
    exact ⟨rfl, Below.refl _ _⟩
  · go_enter Try.func9, Try.ntmps9
    go_wp2_with fail
    refine (rch_ok w HIN.out).mono ?_
    rintro e w1 ⟨D, rfl, hb1, hDs, hD1, _⟩
    have hiD : (Try.prog.info? 52).map (·.size) = some D.size := by rw [hDs]; kernel_rfl
    have hs0 : zero31.size = D.size := by rw [hDs]; rfl
    have HB1 := Lib.hid hb1
    clear hb1
    obtain ⟨code, hcode⟩ : ∃ c, c = (rch bs).2 := ⟨_, rfl⟩
    rw [← hcode]
    have HCODE := Lib.hid hcode
    clear hcode
    by_cases hc : code = 2
    · subst hc
      have HN := Lib.hid (rch_range HCODE.out.symm)
      dsimp only
      repeat (first | (with_reducible refine wpList_store_row rfl 52 (.tmp 3) (.tmp 13) rfl w1.heap.size D rfl rfl 52 zero31 (heap_alloc_new w1 _) hiD hs0 hD1 ?_) | go_step)
      obtain ⟨w2, hw2⟩ : ∃ x, x = (w1.alloc (.cells zero31 52)).setRow w1.heap.size D := ⟨_, rfl⟩
      change Calls _ _ _ ((w1.alloc (.cells zero31 52)).setRow w1.heap.size D) _
      rw [← hw2]
      have HB2 : Hid (Below w.heap.size w w2) := by rw [hw2]; exact below_setRow (HB1.out.alloc HB1.out.size _) HB1.out.size _
      clear hw2
      have hs2 := HB2.out.size
      refine (chg_impl w2 (HIN.out.up7 HB2.out (Nat.le_refl _)) hs2 (by omega)).mono ?_
      intro e w3 hgot
      have hb3 := hgot.1
      obtain ⟨D2, rfl, hD2s, hD21⟩ := hgot.val
      rw [HN.out]
      have hiD2 : (Try.prog.info? 52).map (·.size) = some D2.size := by rw [hD2s]; kernel_rfl
      have hs02 : zero31.size = D2.size := by rw [hD2s]; rfl
      have HB3 := Lib.hid (HB2.out.trans (hb3.mono hs2))
      clear hb3 hgot
      simp only [Option.isSome_none]
      repeat (first | (with_reducible refine wpList_store_row rfl 52 (.tmp 5) (.tmp 21) rfl w3.heap.size D2 rfl rfl 52 zero31 (heap_alloc_new w3 _) hiD2 hs02 hD21 ?_) | go_step)
      refine (alive_ok _).mono ?_
      rintro e w4 ⟨rfl, hb4⟩
      have HB4 := Lib.hid hb4
      clear hb4
      go_wp2_with fail
      go_ret
      refine ⟨rfl, (below_setRow (HB3.out.alloc HB3.out.size _) HB3.out.size _).trans (HB4.out.mono ?_)⟩
      have := HB3.out.size
      rw [size_setRow]; simp; omega
    · have hc2 : ¬ ((code : Nat) : Int) = 2 := by omega
      have hc3 : (((code : Nat) : Int) != 2) = true := by simp; omega
      clear hc
      dsimp only
      repeat (first | (with_reducible refine wpList_store_row rfl 52 (.tmp 3) (.tmp 13) rfl w1.heap.size D rfl rfl 52 zero31 (heap_alloc_new w1 _) hiD hs0 hD1 ?_) | go_step)
      refine (alive_ok _).mono ?_
      rintro e w4 ⟨rfl, hb4⟩
      have HB4 := Lib.hid hb4
      clear hb4
      go_wp2_with fail
      go_ret
      refine ⟨rfl, (below_setRow (HB1.out.alloc HB1.out.size _) HB1.out.size _).trans (HB4.out.mono ?_)⟩
      have := HB1.out.size
      rw [size_setRow]; simp; omega

end Go.Proofs.Ytopcljikkdlffaa
