/- A Certificate up to TLS 1.2 is made (whole) and read. No statement of the seat is proved here. -/
import Derived.Test.YtopcljikkdlffaaCg
namespace Go.Proofs.Ytopcljikkdlffaa
open Go.RowKit

theorem cert_marshal {m : Nat} {L : List (List UInt8)} {v : Value} (w : World) (hm : w.heap[m]? = some (.cells #[v] 122 (0, 0))) (hL : LstB w w.heap.size v L) (hne : ∀ s ∈ L, s ≠ []) (hT : (vecs 3 L).length + 7 ≤ 16777216) :
    Calls Try.prog 79 #[.pointer (some ⟨m, 0, none⟩)] w fun e w' => ∃ v, e = .returned (.tuple #[v, .nilIface]) ∧
      w'.ownsRow w.heap.size 5 1 v ((vecs 3 L).length + 7) ((wcert L).map by8) ∧ Below w.heap.size w w' := by
  cases L with
  | nil =>
    obtain ⟨ad, cap, rfl, _⟩ := hL.len
    exact cert_marshal_nil w hm
  | cons s L => exact cert_marshal_cons w hm hL hne hT (by simp)

set_option maxRecDepth 100000 in
set_option maxHeartbeats 400000 in
theorem cert_tls {L : List (List UInt8)} {v : Value} (w : World) (hL : LstB w w.heap.size v L) (hne : ∀ s ∈ L, s ≠ []) (hT : (vecs 3 L).length + 7 ≤ 16777216) :
    Calls Try.prog 46 #[v] w fun e w' => ∃ v, e = .returned (.tuple #[v, .nilIface]) ∧ w'.ownsRow w.heap.size 5 1 v ((vecs 3 L).length + 7) ((wcert L).map by8) ∧ Below w.heap.size w w' := by
  obtain ⟨ad, cap, rfl, _⟩ := hL.len
  have HL := Lib.hid (hL.keep (w' := w.alloc (.cells #[.slice ad L.length cap] 122)) (base' := (w.alloc (.cells #[.slice ad L.length cap] 122)).heap.size) (by simp) (fun k hk => Below.heap_alloc _ _ _ hk))
  clear hL
  go_enter Try.func46, Try.ntmps46
  go_wp2_with fail
  refine (cert_marshal (m := w.heap.size) _ (heap_alloc_new _ _) HL.out hne hT).mono ?_
  rintro e w1 ⟨v, rfl, hown, hbel⟩
  have HO := Lib.hid hown
  have HB := Lib.hid hbel
  clear hown hbel
  go_wp2_with fail
  go_ret2
  exact ⟨v, rfl, ownsRow_mono HO.out (by simp), ((Below.refl _ w).alloc (Nat.le_refl _) _).trans (HB.out.mono (by simp))⟩

set_option maxRecDepth 100000 in
set_option maxHeartbeats 400000 in
theorem cert_impl {L : List (List UInt8)} {v : Value} (w : World) (hL : LstB w w.heap.size v L) (hne : ∀ s ∈ L, s ≠ []) (hT : (vecs 3 L).length + 7 ≤ 16777216) :
    Calls Try.prog 21 #[v] w fun e w' => ∃ v, e = .returned (.tuple #[v, .bool true]) ∧ w'.ownsRow w.heap.size 5 1 v ((vecs 3 L).length + 7) ((wcert L).map by8) ∧ Below w.heap.size w w' := by
  have HL := Lib.hid hL
  clear hL
  go_enter Try.func21, Try.ntmps21
  go_wp2_with fail
  refine (cert_tls w HL.out hne hT).mono ?_
  rintro e w1 ⟨v, rfl, hown, hbel⟩
  have HO := Lib.hid hown
  have HB := Lib.hid hbel
  clear hown hbel
  go_wp2_with fail
  go_quiet (fail)
  go_wp2_with fail
  go_ret2
  exact ⟨v, rfl, HO.out, Below_drewN HB.out nq⟩

end Go.Proofs.Ytopcljikkdlffaa
