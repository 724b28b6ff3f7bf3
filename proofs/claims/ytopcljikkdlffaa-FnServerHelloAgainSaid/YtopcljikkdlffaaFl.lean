/- Contract of cryptobyte.Builder.flushChild where nothing has failed: the child's length is written ahead of its contents. No statement of the seat is proved here. -/
import Derived.Test.YtopcljikkdlffaaBd
namespace Go.Proofs.Ytopcljikkdlffaa
open Go.RowKit

set_option maxRecDepth 100000 in
set_option maxHeartbeats 400000 in
/-- Nothing to flush. -/
theorem flush_none {c off pl : Nat} {er v ic : Value} (w : World) (hc : w.heap[c]? = some (.cells (bcells er v (.pointer none) off pl ic) 169 (0, 0))) :
    Calls Try.prog 159 #[.pointer (some ⟨c, 0, none⟩)] w fun e w' => e = .returned (.tuple #[]) ∧ w = w' := by
  obtain ⟨f0, f1, f2, f3, f4, f5, f6, f7⟩ := bfacts hc
  clear hc
  go_enter Try.func159, Try.ntmps159
  go_wp2_with fail
  refine bodyPost_ret (results_none rfl _ _ _) rfl ⟨rfl, rfl⟩

/-- The row while its length is being written: j bytes of the length are still to come. -/
def half (bs out : List UInt8) (pl j : Nat) : List UInt8 := bs ++ List.replicate j 0 ++ en (pl - j) out.length ++ out

theorem half_set (bs out : List UInt8) (pl j : Nat) (hj : j < pl) : (half bs out pl (j + 1)).set (bs.length + j) (UInt8.ofNat (out.length / 256 ^ (pl - (j + 1)))) = half bs out pl j := by
  unfold half
  have e : en (pl - j) out.length = UInt8.ofNat (out.length / 256 ^ (pl - (j + 1))) :: en (pl - (j + 1)) out.length := by
    have : pl - j = (pl - (j + 1)) + 1 := by omega
    rw [this]; rfl
  rw [e, List.replicate_succ']
  simp only [List.append_assoc]
  rw [List.set_append_right _ _ (by omega), Nat.add_sub_cancel_left, List.set_append_right _ _ (by simp)]
  simp

theorem half_length (bs out : List UInt8) (pl j : Nat) (hj : j ≤ pl) : (half bs out pl j).length = bs.length + pl + out.length := by
  unfold half
  simp [en_length]
  omega

set_option maxRecDepth 100000 in
set_option maxHeartbeats 1000000 in
theorem flush_ok {base c k off pl plk : Nat} {v ic ick vk : Value} {bs out : List UInt8} (w : World) (hpl : 1 ≤ plk ∧ plk ≤ 3) (hout : out.length < 256 ^ plk) (hck : ¬ c = k)
    (hc : w.heap[c]? = some (.cells (bcells .nilIface v (.pointer (some ⟨k, 0, none⟩)) off pl ic) 169 (0, 0)))
    (hk : w.heap[k]? = some (.cells (bcells .nilIface vk (.pointer none) bs.length plk ick) 169 (0, 0)))
    (hown : w.ownsRow base 5 1 vk (half bs out plk plk).length ((half bs out plk plk).map by8)) (hb : base ≤ w.heap.size) (hl : bs.length ≤ 70368744177664) :
    Calls Try.prog 159 #[.pointer (some ⟨c, 0, none⟩)] w fun e w' => e = .returned (.tuple #[]) ∧ BAt w' base c off pl ic (bs ++ en plk out.length ++ out) ∧ Fr base c w w' := by
  obtain ⟨f0, f1, f2, f3, f4, f5, f6, f7⟩ := bfacts hc
  obtain ⟨g0, g1, g2, g3, g4, g5, g6, g7⟩ := bfacts hk
  have hfz : ∀ o, w.frozen? ⟨c, o, none⟩ = false := fun o => frozen_of_heap hc
  have ho := pow256_le hpl.2
  rw [half_length _ _ _ _ (Nat.le_refl _)] at hown
  obtain ⟨g, cap, rfl⟩ : ∃ g cap, vk = .slice (some ⟨g, 0, none⟩) (bs.length + plk + out.length) cap := by
    rcases hown.2 with ⟨rfl, h2⟩ | ⟨g, cap, cur, rfl, _⟩
    · omega
    · exact ⟨_, _, rfl⟩
  have HC := Lib.hid hc
  have HK := Lib.hid hk
  have HO := Lib.hid hown
  clear hc hk hown
  go_enter Try.func159, Try.ntmps159
  go_wp2_with fail
  refine (flush_none w HK.out).mono ?_
  rintro e w1 ⟨rfl, rfl⟩
  go_wp2_with fail
  go_quiet (fail)
  go_wp2_with fail
  have HW : Hid (((w.setCell ⟨c, 3, none⟩ (.pointer none)).drewN nq).heap[c]? = some (.cells (bcells .nilIface v (.pointer none) off pl ic) 169 (0, 0)) ∧
      ((w.setCell ⟨c, 3, none⟩ (.pointer none)).drewN nq).heap[k]? = some (.cells (bcells .nilIface (.slice (some ⟨g, 0, none⟩) (bs.length + plk + out.length) cap) (.pointer none) bs.length plk ick) 169 (0, 0)) ∧
      ((w.setCell ⟨c, 3, none⟩ (.pointer none)).drewN nq).ownsRow base 5 1 (.slice (some ⟨g, 0, none⟩) (bs.length + plk + out.length) cap) (bs.length + plk + out.length) ((half bs out plk plk).map by8) ∧
      Fr base c w ((w.setCell ⟨c, 3, none⟩ (.pointer none)).drewN nq)) :=
    ⟨heap_set_same HC.out, (Below.heap_setCell _ _ _ _ (fun e => hck e.symm)).trans HK.out, ownsRow_set (w := w) HO.out HC.out (by decide),
      (show Fr base c w (w.setCell ⟨c, 3, none⟩ (.pointer none)) from (Fr.refl base c w).setCell 3 _).drewN nq⟩
  clear f0 f1 f2 f3 f4 f5 f6 f7 g0 g1 g2 g3 g4 g5 g6 g7 hfz
  go_loopw [8, 9] (fun l i wr => ∃ (j : Nat) (L I : Int), j ≤ plk ∧ l = .int .i64 L ∧ i = .int .i64 I ∧ L = ((out.length / 256 ^ (plk - j) : Nat) : Int) ∧ I = (j : Int) - 1 ∧
      wr.heap[c]? = some (.cells (bcells .nilIface v (.pointer none) off pl ic) 169 (0, 0)) ∧
      wr.heap[k]? = some (.cells (bcells .nilIface (.slice (some ⟨g, 0, none⟩) (bs.length + plk + out.length) cap) (.pointer none) bs.length plk ick) 169 (0, 0)) ∧
      wr.ownsRow base 5 1 (.slice (some ⟨g, 0, none⟩) (bs.length + plk + out.length) cap) (bs.length + plk + out.length) ((half bs out plk j).map by8) ∧ Fr base c w wr)
    (fun _ i _ => (intOf i + 1).toNat)
  case atStart => exact ⟨plk, _, _, Nat.le_refl _, rfl, rfl, by simp; omega, by omega, HW.out⟩
  case round =>
    obtain ⟨j, L, I, hj, rfl, rfl, rfl, rfl, hc, hk, hown, hfr⟩ := hrel
    obtain ⟨g0, g1, g2, g3, g4, g5, g6, g7⟩ := bfacts hk
    have hfzg : ∀ o, wr.frozen? ⟨g, o, none⟩ = false := fun o => hown.frozenAt o
    have HC1 := Lib.hid hc
    have HK1 := Lib.hid hk
    have HO1 := Lib.hid hown
    have HF1 := Lib.hid hfr
    clear HC HK HO HW hc hk hown hfr
    cases j with
    | zero =>
      have e0 : out.length / 256 ^ (plk - 0) = 0 := by rw [Nat.sub_zero]; exact Nat.div_eq_of_lt hout
      rw [e0]
      clear e0
      obtain ⟨f0, f1, f2, f3, f4, f5, f6, f7⟩ := bfacts HC1.out
      have hfz : ∀ o, wr.frozen? ⟨c, o, none⟩ = false := fun o => frozen_of_heap HC1.out
      go_wp2_with fail
      go_quiet (fail)
      go_wp2_with fail
      go_end0
      refine ⟨rfl, ⟨_, (heap_set_same (w := wr.drewN nq) HC1.out).trans rfl, ?_, ?_⟩, (HF1.out.drewN nq).setCell 1 _⟩
      · have e : bs ++ en plk out.length ++ out = half bs out plk 0 := by simp [half]
        rw [e, half_length _ _ _ _ (Nat.zero_le _)]
        exact ownsRow_set (w := wr.drewN nq) HO1.out HC1.out (by decide)
      · have := HF1.out.size; simp [World.setCell]; omega
    | succ j =>
      have hcell : wr.cell? ⟨g, bs.length + j, none⟩ = ((half bs out plk (j + 1)).map by8)[bs.length + j]? := HO1.out.cellAt _ (by omega)
      have hex : ∃ u, wr.cell? ⟨g, bs.length + j, none⟩ = some u := by
        rw [hcell, List.getElem?_map, List.getElem?_eq_getElem (by rw [half_length _ _ _ _ hj]; omega)]
        exact ⟨_, rfl⟩
      clear hcell
      obtain ⟨u, hcell⟩ := hex
      rw [show ((((j + 1 : Nat) : Int)) - 1) = (j : Int) by omega]
      have hq3 : out.length / 256 ^ (plk - (j + 1)) ≤ out.length := Nat.div_le_self _ _
      obtain ⟨q, hq⟩ : ∃ q, q = out.length / 256 ^ (plk - (j + 1)) := ⟨_, rfl⟩
      rw [← hq] at hq3 ⊢
      have HQ := Lib.hid hq
      clear hq
      go_wp2_with fail
      have hw1 : IntKind.i64.wrap ((bs.length : Int) + (j : Int)) = ((bs.length + j : Nat) : Int) := by rw [IntWalk.i64_in _ ⟨by omega, by omega⟩]; omega
      refine region_tail 12 (by kernel_rfl) ?_
      simp only [List.take_succ_cons, List.take_zero, List.drop_succ_cons, List.drop_zero]
      repeat still_step
      refine wpStill_nil ?_
      clear hw1
      go_wp2_with fail
      go_roundw
      case rel =>
        have ev : (Value.int .u8 ((q : Int) % 256)) = by8 (UInt8.ofNat q) := (by8_int rfl).symm
        have hst := HO1.out.stored (bs.length + j) (by8 (UInt8.ofNat q))
        rw [ev]
        refine ⟨j, _, _, by omega, rfl, rfl, ?_, rfl, ?_, ?_, ?_, ?_⟩
        · have e1 : plk - j = (plk - (j + 1)) + 1 := by omega
          rw [e1, Nat.pow_succ, ← Nat.div_div_eq_div_mul, ← HQ.out]
          rfl
        · exact grown_other (w := wr) (w' := wr.setCell ⟨g, bs.length + j, none⟩ (by8 (UInt8.ofNat q))) (v := .slice (some ⟨g, 0, none⟩) (bs.length + plk + out.length) cap) hst.2 HO1.out HC1.out (by decide)
        · exact grown_other (w := wr) (w' := wr.setCell ⟨g, bs.length + j, none⟩ (by8 (UInt8.ofNat q))) (v := .slice (some ⟨g, 0, none⟩) (bs.length + plk + out.length) cap) hst.2 HO1.out HK1.out (by decide)
        · have e2 := half_set bs out plk j (by omega)
          rw [← HQ.out] at e2
          have h1 := hst.1
          rw [← List.map_set, e2] at h1
          exact h1
        · exact (HF1.out.grown hst.2 HO1.out).drew
      case measure => simp [intOf]

end Go.Proofs.Ytopcljikkdlffaa
