/- cryptobyte.String's CopyBytes into a row that was just made. No statement of the seat is proved here. -/
import Derived.Test.YtopcljikkdlffaaRq
import Derived.Test.YtopcljikkdlffaaCj
namespace Go.Proofs.Ytopcljikkdlffaa
open Go.RowKit

theorem convS_ok {w : World} {v : Value} {s : List UInt8} (h : Src w v s) : (convert 152 9 v).run Try.prog w = .ok (.string ⟨s.toArray⟩) w := by
  rcases h with ⟨rfl, rfl⟩ | ⟨ad, cap, rfl, hc⟩
  · rw [run_convert_bytes_string w _ _ 5 none 0 0 Try.underlying152 Try.underlying5 Try.underlying9]
    simp [Conv.bytesToString, Sem.run_pure]
    rfl
  · refine run_convert_bytes_back w _ _ 5 ad cap s Try.underlying152 Try.underlying5 Try.underlying9 fun j hj => hc j _ ?_
    simp [List.getElem?_map, List.getElem?_eq_getElem hj, by8]

set_option maxRecDepth 100000 in
set_option maxHeartbeats 1000000 in
theorem copyB_ok {C : Array Value} {p h g : Nat} {T Tp : TypeId} {fr : Nat × Nat} {v : Value} {bs : List UInt8} (w : World) (hg : w.heap[g]? = some (.cells C T fr)) (hV : View C g v bs)
    (hp : w.heap[p]? = some (.cells #[v] Tp (0, 0))) (hh : w.heap[h]? = some (.cells (List.replicate bs.length (Value.int .u8 0)).toArray 5 (0, 0))) (hpg : g ≠ p) (hph : p ≠ h) (hgh : g ≠ h) :
    Calls Try.prog 103 #[.pointer (some ⟨p, 0, none⟩), .slice (some ⟨h, 0, none⟩) bs.length bs.length] w fun e w' => ∃ v2, e = .returned (.bool true) ∧ View C g v2 [] ∧
      w'.heap[p]? = some (.cells #[v2] Tp (0, 0)) ∧ w'.heap[h]? = some (.cells (bs.map by8).toArray 5 (0, 0)) ∧ Fs [p, h] w w' := by
  have hr : rd ((bs.length : Nat) : Int).toNat bs = some (bs, []) := by rw [Int.toNat_natCast]; simp [rd]
  have HR := Lib.hid hr
  have HV := Lib.hid hV
  have HG := Lib.hid hg
  have HP := Lib.hid hp
  have HH := Lib.hid hh
  have c0 := cell_head hp
  have cz : w.frozen? ⟨p, 0, none⟩ = false := frozen_of_heap hp
  obtain ⟨n, hn⟩ : ∃ n, n = bs.length := ⟨_, rfl⟩
  have HN := Lib.hid hn
  rw [← hn] at HR ⊢
  clear hr hV hg hp hh hn
  go_enter Try.func103, Try.ntmps103
  go_wp2_with fail
  refine (read_yes ⟨p, 0, none⟩ n w (by omega) HR.out HV.out c0 cz).mono ?_
  rintro e w1 ⟨v1, v2, rfl, hv1, hv2, rfl⟩
  obtain ⟨off, cap, rfl, hcl, hcm, hcc⟩ := hv1
  rw [← HN.out] at hcl hcc ⊢
  have hcopy := run_copy_row (P := Try.prog) (w.setCell ⟨p, 0, none⟩ v2) 22 22 3 5 h 0 n n ⟨g, off, none⟩ n cap (List.replicate bs.length (Value.int .u8 0)).toArray 5 (bs.map by8) Try.underlying22 infoSize8 (heap_past HH.out hph) (by rw [List.length_map, ← HN.out]; exact (Nat.min_self n).symm)
    (fun j u hu => by
      have hj : j < bs.length := by have := (List.getElem?_eq_some_iff.1 hu).1; simpa using this
      rw [add_plain, cell_of_heap (heap_past HG.out (fun e => hpg e.symm)), hcc j (by rw [HN.out]; exact hj)]
      rw [List.getElem?_map, List.getElem?_eq_getElem hj] at hu
      simp only [Option.map_some, Option.some.injEq] at hu
      rw [← hu]
      simp [hj])
    (by simp) (fun u hu => by
      obtain ⟨b, _, rfl⟩ := List.mem_map.1 hu
      rfl)
  have hc2 : (List.replicate bs.length (Value.int .u8 0)).toArray.toList.take 0 ++ bs.map by8 ++ (List.replicate bs.length (Value.int .u8 0)).toArray.toList.drop (0 + (bs.map by8).length) = bs.map by8 := by simp
  rw [hc2, List.length_map, ← HN.out] at hcopy
  have HV2 := Lib.hid hv2
  clear hcc hv2 hc2
  go_wp2_with fail
  go_ret
  refine ⟨v2, rfl, HV2.out, ?_, ?_, ?_⟩
  · rw [setRow_other _ _ _ _ hph]
    exact (heap_set_same HP.out).trans rfl
  · exact setRow_heap _ _ _ _ _ _ (heap_past HH.out hph)
  · refine ((Fs.refl _ w).set p 0 _ (by simp)).trans ⟨rfl, rfl, rfl, by rw [size_setRow]; exact Nat.le_refl _, fun k _ hn => ?_⟩
    exact setRow_other _ _ _ _ (fun e => hn (by simp [e]))

end Go.Proofs.Ytopcljikkdlffaa
