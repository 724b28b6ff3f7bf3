/- A Certificate up to TLS 1.2 is read (whole), and the walk of its statement. -/
import Derived.Test.YtopcljikkdlffaaCi
namespace Go.Proofs.Ytopcljikkdlffaa
open Go.RowKit

set_option maxRecDepth 100000 in
set_option maxHeartbeats 1000000 in
theorem cert_unmarshal_nil {C : Array Value} {m g : Nat} {T : TypeId} {fr : Nat × Nat} {v : Value} (w : World) (hm : w.heap[m]? = some (.cells #[.slice none 0 0] 122 (0, 0))) (hg : w.heap[g]? = some (.cells C T fr))
    (hV : View C g v (wcert [])) :
    Calls Try.prog 80 #[.pointer (some ⟨m, 0, none⟩), v] w fun e w' => ∃ (cs : Array Value) (h : Nat), e = .returned (.bool true) ∧ w'.heap[m]? = some (.cells #[.slice (some ⟨h, 0, none⟩) 0 0] 122 (0, 0)) ∧
      w'.heap[h]? = some (.cells cs 22 (0, 0)) ∧ w.heap.size ≤ h ∧ Fm m w w' := by
  obtain ⟨off, cap, rfl, hcl, hcm, hcell⟩ := id hV
  have hl7 : (wcert []).length = 7 := rfl
  rw [hl7] at hcl hV hcell ⊢
  have f0 : w.cell? ⟨m, 0, none⟩ = some (.slice none 0 0) := by rw [cell_of_heap hm]; rfl
  have mfz : w.frozen? ⟨m, 0, none⟩ = false := frozen_of_heap hm
  have g4 : w.cell? ⟨g, off + 4, none⟩ = some (.int .u8 0) := by rw [cell_of_heap hg, hcell 4 (by omega)]; rfl
  have g5 : w.cell? ⟨g, off + 5, none⟩ = some (.int .u8 0) := by rw [cell_of_heap hg, hcell 5 (by omega)]; rfl
  have g6 : w.cell? ⟨g, off + 6, none⟩ = some (.int .u8 0) := by rw [cell_of_heap hg, hcell 6 (by omega)]; rfl
  have hor : bits BinOp.or IntKind.u32 0 0 = 0 := by decide
  have hcm' : cap ≤ 9223372036854775807 := hcm
  have hml := lt_of_heap hm
  have HM := Lib.hid hm
  have hmk : ∀ wx : World, wx.heap.size = w.heap.size → (Instr.makeSlice 29 (.int .i64 0) (.int .i64 0)).run Try.prog wx = .ok (.slice (some ⟨w.heap.size, 0, none⟩) 0 0) (wx.alloc (.cells #[] 22)) := fun wx h => by rw [← h]; exact make_rows wx 0 (by omega)
  clear hm hg hV hcell hcm
  by_cases hcap : 7 = cap
  · go_enter Try.func80, Try.ntmps80
    go_wp2_with fail
    go_quiet (fail)
    have hmk2 := hmk (w.drewN nq) rfl
    have q1 : ((w.drewN nq).alloc (.cells #[] 22)).frozen? ⟨m, 0, none⟩ = false := frozen_of_heap ((Below.heap_alloc (w.drewN nq) _ _ hml).trans HM.out)
    have q2 : ((w.drewN nq).alloc (.cells #[] 22)).cell? ⟨m, 0, none⟩ = some (.slice none 0 0) := by rw [cell_of_heap ((Below.heap_alloc (w.drewN nq) _ _ hml).trans HM.out)]; rfl
    go_wp2_with fail
    go_loop [5, 6] (fun cl nc => cl = .int .u32 0 ∧ nc = .int .i64 0) (fun _ _ => 0)
    case atStart => exact ⟨rfl, rfl⟩
    case round =>
      obtain ⟨rfl, rfl⟩ := hrel
      go_wp2_with fail
      go_loop [9] (fun i => i = .int .i64 0) (fun _ => 0)
      case atStart => rfl
      case round =>
        obtain rfl := hrel
        go_wp2_with fail
        go_ret
        refine ⟨rfl, #[], w.heap.size, ?_, ?_, Nat.le_refl _, ?_⟩
        · exact (heap_set_same ((Below.heap_alloc (w.drewN nq) _ _ hml).trans HM.out)).trans rfl
        · exact (Below.heap_setCell _ _ _ _ (by show w.heap.size ≠ m; omega)).trans (heap_alloc_new (w.drewN nq) _)
        · refine ⟨rfl, rfl, rfl, by simp [World.setCell], fun k hk hkm => ?_⟩
          exact (Below.heap_setCell _ _ _ _ hkm).trans (Below.heap_alloc (w.drewN nq) _ _ hk)
  · go_enter Try.func80, Try.ntmps80
    go_wp2_with fail
    go_quiet (fail)
    have hmk2 := hmk (w.drewN nq) rfl
    have q1 : ((w.drewN nq).alloc (.cells #[] 22)).frozen? ⟨m, 0, none⟩ = false := frozen_of_heap ((Below.heap_alloc (w.drewN nq) _ _ hml).trans HM.out)
    have q2 : ((w.drewN nq).alloc (.cells #[] 22)).cell? ⟨m, 0, none⟩ = some (.slice none 0 0) := by rw [cell_of_heap ((Below.heap_alloc (w.drewN nq) _ _ hml).trans HM.out)]; rfl
    go_wp2_with fail
    go_loop [5, 6] (fun cl nc => cl = .int .u32 0 ∧ nc = .int .i64 0) (fun _ _ => 0)
    case atStart => exact ⟨rfl, rfl⟩
    case round =>
      obtain ⟨rfl, rfl⟩ := hrel
      go_wp2_with fail
      go_loop [9] (fun i => i = .int .i64 0) (fun _ => 0)
      case atStart => rfl
      case round =>
        obtain rfl := hrel
        go_wp2_with fail
        go_ret
        refine ⟨rfl, #[], w.heap.size, ?_, ?_, Nat.le_refl _, ?_⟩
        · exact (heap_set_same ((Below.heap_alloc (w.drewN nq) _ _ hml).trans HM.out)).trans rfl
        · exact (Below.heap_setCell _ _ _ _ (by show w.heap.size ≠ m; omega)).trans (heap_alloc_new (w.drewN nq) _)
        · refine ⟨rfl, rfl, rfl, by simp [World.setCell], fun k hk hkm => ?_⟩
          exact (Below.heap_setCell _ _ _ _ hkm).trans (Below.heap_alloc (w.drewN nq) _ _ hk)

theorem cert_unmarshal {C : Array Value} {m g : Nat} {T : TypeId} {fr : Nat × Nat} {v : Value} {L : List (List UInt8)} (w : World) (hm : w.heap[m]? = some (.cells #[.slice none 0 0] 122 (0, 0))) (hg : w.heap[g]? = some (.cells C T fr)) (hgm : g ≠ m)
    (hV : View C g v (wcert L)) (hne : ∀ s ∈ L, s ≠ []) (hT : (vecs 3 L).length + 7 ≤ 16777216) :
    Calls Try.prog 80 #[.pointer (some ⟨m, 0, none⟩), v] w fun e w' => ∃ (cs : Array Value) (h : Nat), e = .returned (.bool true) ∧ w'.heap[m]? = some (.cells #[.slice (some ⟨h, 0, none⟩) L.length L.length] 122 (0, 0)) ∧
      w'.heap[h]? = some (.cells cs 22 (0, 0)) ∧ w.heap.size ≤ h ∧ (∀ (j : Nat) (s : List UInt8), L[j]? = some s → ∃ u, cs[j]? = some u ∧ View C g u s) ∧ Fm m w w' := by
  cases L with
  | nil =>
    refine (cert_unmarshal_nil w hm hg hV).mono ?_
    rintro e w1 ⟨cs, h, he, h1, h2, h3, h4⟩
    exact ⟨cs, h, he, h1, h2, h3, fun j s hj => by simp at hj, h4⟩
  | cons s L => exact cert_unmarshal_cons w hm hg hgm hV hne hT (by simp)

set_option maxRecDepth 100000 in
set_option maxHeartbeats 400000 in
theorem certu_tls {C : Array Value} {g : Nat} {T : TypeId} {fr : Nat × Nat} {v : Value} {L : List (List UInt8)} (w : World) (hg : w.heap[g]? = some (.cells C T fr)) (hV : View C g v (wcert L)) (hne : ∀ s ∈ L, s ≠ []) (hT : (vecs 3 L).length + 7 ≤ 16777216) :
    Calls Try.prog 47 #[v] w fun e w' => ∃ u, e = .returned (.tuple #[u, .bool true]) ∧ LstB w' w'.heap.size u L ∧ Below w.heap.size w w' := by
  have HV := Lib.hid hV
  have HG := Lib.hid hg
  have hgl := lt_of_heap hg
  clear hV hg
  go_enter Try.func47, Try.ntmps47
  go_wp2_with fail
  refine (cert_unmarshal (m := w.heap.size) (g := g) _ (heap_alloc_new _ _) ((Below.heap_alloc _ _ _ hgl).trans HG.out) (by omega) HV.out hne hT).mono ?_
  rintro e w1 ⟨cs, h, rfl, hm1, hh1, hle, hall, hF⟩
  have m0 : w1.cell? ⟨w.heap.size, 0, none⟩ = some (.slice (some ⟨h, 0, none⟩) L.length L.length) := by rw [cell_of_heap hm1]; rfl
  have HH := Lib.hid hh1
  have HALL := Lib.hid hall
  have HF := Lib.hid hF
  clear hm1 hh1 hall hF
  go_wp2_with fail
  go_ret2
  refine ⟨_, rfl, .inr ⟨⟨h, 0, none⟩, L.length, rfl, fun _ => lt_of_heap HH.out, fun j s hj => ?_⟩, ?_⟩
  · obtain ⟨u, hu, hv⟩ := HALL.out j s hj
    have hgk : w1.heap[g]? = some (.cells C T fr) := by
      rw [HF.out.keep g (by simp; omega) (by omega), Below.heap_alloc _ _ _ hgl, HG.out]
    exact ⟨u, by rw [add_plain, Nat.zero_add, cell_of_heap HH.out]; exact hu, view_src hv hgk⟩
  · refine ⟨HF.out.os, HF.out.tape, HF.out.output, by have h := HF.out.size; simp at h; omega, fun k hk => ?_⟩
    rw [HF.out.keep k (by simp; omega) (by omega), Below.heap_alloc _ _ _ hk]

set_option maxRecDepth 100000 in
set_option maxHeartbeats 400000 in
theorem certu_impl {C : Array Value} {g : Nat} {T : TypeId} {fr : Nat × Nat} {v : Value} {L : List (List UInt8)} (w : World) (hg : w.heap[g]? = some (.cells C T fr)) (hV : View C g v (wcert L)) (hne : ∀ s ∈ L, s ≠ []) (hT : (vecs 3 L).length + 7 ≤ 16777216) :
    Calls Try.prog 22 #[v] w fun e w' => ∃ u, e = .returned (.tuple #[u, .bool true]) ∧ LstB w' w'.heap.size u L ∧ Below w.heap.size w w' := by
  have HV := Lib.hid hV
  have HG := Lib.hid hg
  clear hV hg
  go_enter Try.func22, Try.ntmps22
  go_wp2_with fail
  refine (certu_tls w HG.out HV.out hne hT).mono ?_
  rintro e w1 ⟨u, rfl, hl, hb⟩
  have HL := Lib.hid hl
  have HB := Lib.hid hb
  clear hl hb
  go_wp2_with fail
  go_ret2
  exact ⟨u, rfl, HL.out, HB.out⟩

set_option maxRecDepth 100000 in
set_option maxHeartbeats 400000 in
theorem certMade_walk {L : List (List UInt8)} {v : Value} (w : World) (hL : LstB w w.heap.size v L) (hn : L.length ≤ 1048576) (hT : lens L ≤ 1048576) :
    Calls Try.prog 5 #[v] w fun e w' => e = .returned (.bool true) ∧ Below w.heap.size w w' := by
  obtain ⟨ad, cap, rfl, _⟩ := hL.len
  have hvl := vecs_len 3 L
  have hs : ∀ s ∈ L, s.length ≤ 1048576 := fun s hs => by
    have : s.length ≤ lens L := by
      obtain ⟨i, hi, rfl⟩ := List.mem_iff_getElem.1 hs
      have h1 := lens_take_succ hi
      have h2 := lens_take_le L (i + 1)
      omega
    omega
  have HL := Lib.hid hL
  clear hL
  go_enter Try.func5, Try.ntmps5
  go_wp2_with fail
  refine (fits2_ok w HL.out (by omega) (fun s h => by have := hs s h; omega)).mono ?_
  rintro e w1 ⟨rfl, rfl⟩
  go_wp2_with fail
  refine (rightCert_ok w1 HL.out (by omega) (fun s h => by have := hs s h; omega)).mono ?_
  rintro e w2 ⟨rfl, rfl⟩
  cases hall : (L.all fun s => !s.isEmpty) with
  | false =>
    go_wp2_with fail
    go_ret
    exact ⟨rfl, Below.refl _ _⟩
  | true =>
    have hne : ∀ s ∈ L, s ≠ [] := fun s h => by
      have := List.all_eq_true.1 hall s h
      simpa using this
    clear hall
    go_wp2_with fail
    refine (writeCert_ok w2 HL.out (by omega) (fun s h => by have := hs s h; omega) (by omega)).mono ?_
    rintro e w3 ⟨u3, rfl, hown3, hB3⟩
    have HT3 := Lib.hid (src_own (base := w3.heap.size) hown3 (Nat.le_refl _))
    have HB3 := Lib.hid hB3
    have HL3 := Lib.hid (HL.out.keep (w' := w3) hB3.size hB3.block)
    clear hown3 hB3
    go_wp2_with fail
    refine (cert_impl w3 HL3.out hne (by omega)).mono ?_
    rintro e w4 ⟨u4, rfl, hown4, hB4⟩
    obtain ⟨C, g, hV, hg, hgb⟩ := view_own hown4 (by simp [wcert, en1])
    have HV := Lib.hid hV
    have HG := Lib.hid hg
    have HS4 := Lib.hid (src_own (base := w4.heap.size) hown4 (Nat.le_refl _))
    have HB4 := Lib.hid hB4
    clear hV hg hown4 hB4
    go_wp2_with fail
    refine (certu_impl w4 HG.out HV.out hne (by omega)).mono ?_
    rintro e w5 ⟨u5, rfl, hl5, hB5⟩
    have HL5 := Lib.hid hl5
    have HS5 := Lib.hid (HS4.out.below hB5)
    have HT5 := Lib.hid ((HT3.out.below HB4.out).keep (w' := w5) HB4.out.size (fun k hk => hB5.block k (Nat.lt_of_lt_of_le hk HB4.out.size)))
    have HLL5 := Lib.hid ((HL3.out.keep (w' := w4) HB4.out.size HB4.out.block).keep (w' := w5) hB5.size hB5.block)
    have HB := Lib.hid (HB3.out.trans ((HB4.out.mono HB3.out.size).trans (hB5.mono (Nat.le_trans HB3.out.size HB4.out.size))))
    clear hl5 hB5
    go_wp2_with fail
    refine (Same_ok w5 HS5.out.src HT5.out.src).mono ?_
    rintro e w6 ⟨rfl, rfl⟩
    rw [decide_eq_true rfl]
    go_wp2_with fail
    refine (sameLists_ok w6 HL5.out HLL5.out (by omega)).mono ?_
    rintro e w7 ⟨rfl, rfl⟩
    go_wp2_with fail
    go_ret
    exact ⟨rfl, HB.out⟩

end Go.Proofs.Ytopcljikkdlffaa
