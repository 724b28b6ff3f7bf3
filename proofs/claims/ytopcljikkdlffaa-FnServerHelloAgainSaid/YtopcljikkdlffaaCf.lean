/- A Certificate up to TLS 1.2 as the reference writes it; sameness of lists. No statement of the seat is proved here. -/
import Derived.Test.YtopcljikkdlffaaCe
namespace Go.Proofs.Ytopcljikkdlffaa
open Go.RowKit

/-- The bytes of a Certificate message. -/
def wcert (L : List (List UInt8)) : List UInt8 := en 1 11 ++ en 3 (3 + (vecs 3 L).length) ++ (en 3 (vecs 3 L).length ++ vecs 3 L)

theorem wcert_length (L : List (List UInt8)) : (wcert L).length = (vecs 3 L).length + 7 := by simp [wcert, en_length]; omega

set_option maxRecDepth 100000 in
set_option maxHeartbeats 400000 in
theorem writeCert_ok {v : Value} {L : List (List UInt8)} (w : World) (hL : LstB w w.heap.size v L) (hn : L.length ≤ 2147483647) (hs : ∀ s ∈ L, s.length < 16777216) (hT : (vecs 3 L).length + 3 < 16777216) :
    Calls Try.prog 20 #[v] w fun e w' => ∃ u, e = .returned (.tuple #[u, .bool true]) ∧ w'.ownsRow w.heap.size 5 1 u ((vecs 3 L).length + 7) ((wcert L).map by8) ∧ Below w.heap.size w w' := by
  obtain ⟨ad, cap, rfl, _⟩ := hL.len
  have HL := Lib.hid hL
  clear hL
  go_enter Try.func20, Try.ntmps20
  go_wp2_with fail
  refine (vectors_ok w HL.out hn hs (by omega)).mono ?_
  rintro e w1 ⟨u1, rfl, hown, hB⟩
  have HS := Lib.hid (src_own (base := w1.heap.size) hown (Nat.le_refl _))
  obtain ⟨a1, c1, rfl⟩ := row_slice hown
  have HB := Lib.hid hB
  clear hown hB
  go_wp2_with fail
  refine (vector_ok 3 w1 (.inr (.inr rfl)) HS.out (by omega)).mono ?_
  rintro e w2 ⟨u2, rfl, hown, hB⟩
  rw [decide_eq_false (by omega : ¬ 256 ^ 3 ≤ (vecs 3 L).length), Bool.or_false]
  have HS2 := Lib.hid (src_own (base := w2.heap.size) hown (Nat.le_refl _))
  obtain ⟨a2, c2, rfl⟩ := row_slice hown
  have HB2 := Lib.hid (HB.out.trans (hB.mono HB.out.size))
  clear hown hB
  have hl3 : (en 3 (vecs 3 L).length ++ vecs 3 L).length = 3 + (vecs 3 L).length := by simp [en_length]
  go_wp2_with fail
  refine (message_ok 11 w2 (by omega) HS2.out (by omega)).mono ?_
  rintro e w3 ⟨u3, rfl, hown, hB⟩
  rw [decide_eq_false (by omega : ¬ 256 ^ 3 ≤ (en 3 (vecs 3 L).length ++ vecs 3 L).length), Bool.or_false]
  have HO := Lib.hid (ownsRow_mono hown HB2.out.size)
  have HB3 := Lib.hid (HB2.out.trans (hB.mono HB2.out.size))
  clear hown hB
  go_wp2_with fail
  go_ret2
  refine ⟨u3, rfl, ?_, HB3.out⟩
  have h := HO.out
  rw [hl3] at h
  have e : 3 + (vecs 3 L).length + 4 = (vecs 3 L).length + 7 := by omega
  rw [e] at h
  exact h

set_option maxRecDepth 100000 in
set_option maxHeartbeats 1000000 in
/-- Two lists that show the same. -/
theorem sameLists_ok {base : Nat} {u v : Value} {L : List (List UInt8)} (w : World) (hu : LstB w base u L) (hv : LstB w base v L) (hn : L.length ≤ 2147483647) :
    Calls Try.prog 23 #[u, v] w fun e w' => e = .returned (.bool true) ∧ w' = w := by
  obtain ⟨ad, cap, rfl, hx⟩ := hu.len
  obtain ⟨bd, cap2, rfl, hy⟩ := hv.len
  have HU := Lib.hid hu
  have HV := Lib.hid hv
  clear hu hv
  go_enter Try.func23, Try.ntmps23
  go_wp2_with fail
  go_loop [5, 6, 14, 15, 16, 17, 18, 19, 20, 21, 22, 23, 24, 25] (fun _ _ i _ _ _ _ _ _ _ _ _ _ _ => ∃ j : Nat, j ≤ L.length ∧ i = .int .i64 j) (fun _ _ i _ _ _ _ _ _ _ _ _ _ _ => L.length - (intOf i).toNat)
  case atStart => exact ⟨0, by omega, rfl⟩
  case round =>
    obtain ⟨j, hj, rfl⟩ := hrel
    by_cases hjn : j < L.length
    · obtain ⟨x, rfl⟩ := hx (by omega)
      obtain ⟨y, rfl⟩ := hy (by omega)
      obtain ⟨u1, hu, hsu⟩ := HU.out.at hjn
      obtain ⟨u2, hv, hsv⟩ := HV.out.at hjn
      obtain ⟨ad1, cap1, rfl⟩ := hsu.len
      obtain ⟨ad2, cap2, rfl⟩ := hsv.len
      have HSU := Lib.hid hsu
      have HSV := Lib.hid hsv
      clear hsu hsv
      go_wp2_with fail
      refine (same_ok w HSU.out.src HSV.out.src).mono ?_
      rintro e w1 ⟨rfl, rfl⟩
      rw [decide_eq_true rfl]
      go_wp2_with fail
      exact ⟨⟨j + 1, by omega, by simp⟩, by simp [intOf]; omega⟩
    · go_wp2_with fail
      go_ret
      exact ⟨rfl, rfl⟩

end Go.Proofs.Ytopcljikkdlffaa
