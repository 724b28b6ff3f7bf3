/- Sameness of bytes, the reference's KeyUpdate, and that the program is alive. No statement of the seat is proved here. -/
import Derived.Test.YtopcljikkdlffaaWm
import Derived.Laws.IdiomStrings
namespace Go.Proofs.Ytopcljikkdlffaa
open Go.RowKit

theorem conv_ok {w : World} {v : Value} {s : List UInt8} (h : Src w v s) : (convert 22 9 v).run Try.prog w = .ok (.string ⟨s.toArray⟩) w := by
  rcases h with ⟨rfl, rfl⟩ | ⟨ad, cap, rfl, hc⟩
  · rw [run_convert_bytes_string w _ _ 5 none 0 0 Try.underlying22 Try.underlying5 Try.underlying9]
    simp [Conv.bytesToString, Sem.run_pure]
    rfl
  · refine run_convert_bytes_back w _ _ 5 ad cap s Try.underlying22 Try.underlying5 Try.underlying9 fun j hj => hc j _ ?_
    simp [List.getElem?_map, List.getElem?_eq_getElem hj, by8]

set_option maxRecDepth 100000 in
set_option maxHeartbeats 400000 in
theorem same_ok {s t : List UInt8} {u v : Value} (w : World) (hs : Src w u s) (ht : Src w v t) :
    Calls Try.prog 40 #[u, v] w fun e w' => e = .returned (.bool (decide (s = t))) ∧ w' = w := by
  have h1 := conv_ok hs
  have h2 := conv_ok ht
  go_enter Try.func40, Try.ntmps40
  go_wp2_with fail
  go_ret
  refine ⟨?_, rfl⟩
  simp only [Ending.returned.injEq]
  simp
  rw [Bool.eq_iff_iff]
  simp

set_option maxRecDepth 100000 in
set_option maxHeartbeats 400000 in
theorem Same_ok {s t : List UInt8} {u v : Value} (w : World) (hs : Src w u s) (ht : Src w v t) :
    Calls Try.prog 15 #[u, v] w fun e w' => e = .returned (.bool (decide (s = t))) ∧ w' = w := by
  go_enter Try.func15, Try.ntmps15
  go_wp2_with fail
  refine (same_ok w hs ht).mono ?_
  rintro e w1 ⟨rfl, rfl⟩
  go_wp2_with fail
  go_ret
  exact ⟨rfl, rfl⟩

set_option maxRecDepth 100000 in
set_option maxHeartbeats 1000000 in
theorem number_ok (k n : Nat) (w : World) (hk : k ≤ 4) (hn : n ≤ 4294967296) :
    Calls Try.prog 73 #[.int .i64 k, .int .i64 n] w fun e w' => ∃ v, e = .returned (.agg #[v, .bool false]) ∧ w'.ownsRow w.heap.size 5 1 v k ((en k n).map by8) ∧ Below w.heap.size w w' := by
  go_enter Try.func73, Try.ntmps73
  go_wp2_with fail
  have HW0 := Lib.hid (wat_new (w.alloc (.cells #[.slice none 0 0, .bool false] 62)) (base := w.heap.size) (by simp))
  rw [World.size_alloc] at HW0
  refine (wnum_ok (base := w.heap.size) _ _ _ (by omega) (by omega) HW0.out (by simp)).mono ?_
  rintro e w1 ⟨rfl, hW1, hF1⟩
  have c1 : w1.heap[w.heap.size]? = some (.cells #[.slice none 0 0, .bool false] 62 (0, 0)) := by
    rw [hF1.keep _ (by simp; omega) (by omega) (.inr ?_)]
    · exact (Below.heap_alloc _ _ _ (by simp)).trans (heap_alloc_new _ _)
    · rintro ⟨cs, fr, e⟩
      rw [(Below.heap_alloc _ _ _ (by simp)).trans (heap_alloc_new _ _)] at e
      simp at e
  rw [Int.toNat_natCast, Int.toNat_natCast, List.nil_append] at hW1
  obtain ⟨v, hh, hown, hb⟩ := hW1
  rw [en_length] at hown
  obtain ⟨ao, cap, rfl⟩ := row_slice hown
  have g0 : w1.cell? ⟨w.heap.size + 1, 0, none⟩ = some (.slice ao k cap) := by rw [cell_of_heap hh]; rfl
  have g1 : w1.cell? ⟨w.heap.size + 1, 1, none⟩ = some (.bool false) := by rw [cell_of_heap hh]; rfl
  have d0 : w1.cell? ⟨w.heap.size, 0, none⟩ = some (.slice none 0 0) := by rw [cell_of_heap c1]; rfl
  have d1 : w1.cell? ⟨w.heap.size, 1, none⟩ = some (.bool false) := by rw [cell_of_heap c1]; rfl
  have hfz : ∀ o, w1.frozen? ⟨w.heap.size, o, none⟩ = false := fun o => frozen_of_heap c1
  have HO := Lib.hid hown
  have HC := Lib.hid c1
  have HB : Below w.heap.size w w1 := (((Below.refl _ w).alloc (Nat.le_refl _) _).alloc (by simp) _).trans (hF1.below (by simp; omega) (by omega))
  have HB := Lib.hid HB
  clear hh hown hF1 c1
  go_wp2_with fail
  (try simp only [Exit.inBlock, Exit.then])
  have hc2 : ∀ u, (w1.setCell ⟨w.heap.size, 0, none⟩ u).heap[w.heap.size]? = some (.cells #[u, .bool false] 62 (0, 0)) := fun u => (heap_set_same HC.out).trans rfl
  refine bodyPost_ret (v := .agg #[.slice ao k cap, .bool false]) ?_ rfl ⟨_, rfl, ownsRow_set (ownsRow_set HO.out HC.out (by decide)) (hc2 _) (by decide), (HB.out.setCell (Nat.le_refl _) _).setCell (Nat.le_refl _) _⟩
  rw [results_cell1 rfl]
  go_simp

set_option maxRecDepth 100000 in
set_option maxHeartbeats 400000 in
theorem writeUpdate_ok (w : World) :
    Calls Try.prog 37 #[.bool true] w fun e w' => ∃ v, e = .returned v ∧ w'.ownsRow w.heap.size 5 1 v 5 ([24, 0, 0, 1, 1].map by8) ∧ Below w.heap.size w w' := by
  go_enter Try.func37, Try.ntmps37
  go_wp2_with fail
  refine (number_ok 1 1 w (by omega) (by omega)).mono ?_
  rintro e w1 ⟨v, rfl, hown, hB⟩
  have HS := Lib.hid (src_own hown (Nat.le_refl _))
  obtain ⟨ao, cap, rfl⟩ := row_slice hown
  have HB := Lib.hid hB
  clear hown hB
  go_wp2_with fail
  refine (message_ok 24 w1 (by omega) HS.out (by simp [en_length])).mono ?_
  rintro e w2 ⟨v2, rfl, hown, hB2⟩
  have HO := Lib.hid (ownsRow_mono hown HB.out.size)
  have HB2 := Lib.hid (HB.out.trans (hB2.mono HB.out.size))
  clear hown hB2
  go_wp2_with fail
  go_ret
  exact ⟨v2, rfl, HO.out, HB2.out⟩

set_option maxRecDepth 100000 in
set_option maxHeartbeats 400000 in
theorem alive_ok (w : World) : Calls Try.prog 12 #[] w fun e w' => e = .returned (.bool true) ∧ Below w.heap.size w w' := by
  go_enter Try.func12, Try.ntmps12
  go_wp2_with fail
  refine (ku_impl w).mono ?_
  rintro e w1 ⟨v, rfl, hown, hB⟩
  have HS := Lib.hid (src_own (base := w1.heap.size) hown (Nat.le_refl _))
  have HB := Lib.hid hB
  clear hown hB
  go_wp2_with fail
  refine (writeUpdate_ok w1).mono ?_
  rintro e w2 ⟨v2, rfl, hown, hB2⟩
  have HS1 := Lib.hid (HS.out.below hB2)
  have HS2 := Lib.hid (src_own (base := w2.heap.size) hown (Nat.le_refl _))
  have HB2 := Lib.hid (HB.out.trans (hB2.mono HB.out.size))
  clear hown hB2
  go_wp2_with fail
  refine (Same_ok w2 HS1.out.src HS2.out.src).mono ?_
  rintro e w3 ⟨rfl, rfl⟩
  go_wp2_with fail
  go_ret
  exact ⟨rfl, HB2.out⟩

end Go.Proofs.Ytopcljikkdlffaa
