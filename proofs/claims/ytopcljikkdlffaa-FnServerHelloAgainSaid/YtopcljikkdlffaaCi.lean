/- A Certificate up to TLS 1.2 is read. No statement of the seat is proved here. -/
import Derived.Test.YtopcljikkdlffaaCh
namespace Go.Proofs.Ytopcljikkdlffaa
open Go.RowKit

theorem u32_be3 (b0 b1 b2 : UInt8) : bits BinOp.or IntKind.u32 (bits BinOp.or IntKind.u32 (((b0.toNat : Int) % 4294967296 * 65536) % 4294967296) (((b1.toNat : Int) % 4294967296 * 256) % 4294967296)) ((b2.toNat : Int) % 4294967296) = ((be [b0, b1, b2] : Nat) : Int) := by
  have h0 := b0.toNat_lt
  have h1 := b1.toNat_lt
  have h2 := b2.toNat_lt
  have e0 : ((b0.toNat : Int) % 4294967296 * 65536) % 4294967296 = ((b0.toNat * 65536 : Nat) : Int) := by omega
  have e1 : ((b1.toNat : Int) % 4294967296 * 256) % 4294967296 = ((b1.toNat * 256 : Nat) : Int) := by omega
  have e2 : (b2.toNat : Int) % 4294967296 = ((b2.toNat : Nat) : Int) := by omega
  rw [e0, e1, e2, u32_or_nat _ _ (by omega) (by omega), or_mul _ b0.toNat 16 65536 (by decide) (by omega)]
  rw [show b0.toNat * 65536 + b1.toNat * 256 = (b0.toNat * 256 + b1.toNat) * 256 by omega, u32_or_nat _ _ (by omega) (by omega), or_mul _ _ 8 256 (by decide) (by omega)]
  simp [be]

/-- What is left behind j vectors. -/
theorem vecs_drop {L : List (List UInt8)} {j : Nat} (h : j < L.length) : vecs 3 (L.drop j) = en 3 L[j].length ++ L[j] ++ vecs 3 (L.drop (j + 1)) := by
  unfold vecs
  rw [List.drop_eq_getElem_cons h, List.flatMap_cons]

theorem vecs_take_drop (L : List (List UInt8)) (j : Nat) : (vecs 3 (L.take j)).length + (vecs 3 (L.drop j)).length = (vecs 3 L).length := by
  have h : vecs 3 L = vecs 3 (L.take j) ++ vecs 3 (L.drop j) := by unfold vecs; rw [← List.flatMap_append, List.take_append_drop]
  rw [h]; simp

/-- What the reading leaves alone: every block that was there but m. -/
structure Fm (m : Nat) (w w' : World) : Prop where
  os : w'.os = w.os
  tape : w'.tape = w.tape
  output : w'.output = w.output
  size : w.heap.size ≤ w'.heap.size
  keep : ∀ k, k < w.heap.size → k ≠ m → w'.heap[k]? = w.heap[k]?

/-- The three bytes at the head of a view, as one number. -/
theorem view_head3 {C : Array Value} {g off n cap : Nat} {bs r : List UInt8} {k : Nat} (hV : View C g (.slice (some ⟨g, off, none⟩) n cap) bs) (hb : bs = en 3 k ++ r) (hk : k < 16777216) :
    ∃ b0 b1 b2, C[off]? = some (by8 b0) ∧ C[off + 1]? = some (by8 b1) ∧ C[off + 2]? = some (by8 b2) ∧ be [b0, b1, b2] = k := by
  obtain ⟨hn, hc⟩ := hV.at
  rw [en3] at hb
  subst hb
  refine ⟨_, _, _, by simpa using hc 0 (by simp), by simpa using hc 1 (by simp), by simpa using hc 2 (by simp), ?_⟩
  rw [← en3, be_en, Nat.mod_eq_of_lt (by omega)]

theorem Try.info22 : (Try.prog.info? 22).map (fun i => (i.zero, i.size, i.bytes)) = some (some (.slice none 0 0), 1, 24) := by kernel_rfl

/-- A row of slices is made. -/
theorem make_rows (w : World) (n : Nat) (h : n ≤ 16777216) : (Instr.makeSlice 29 (.int .i64 n) (.int .i64 n)).run Try.prog w = .ok (.slice (some ⟨w.heap.size, 0, none⟩) n n) (w.alloc (.cells (List.replicate n (Value.slice none 0 0)).toArray 22)) := by
  obtain ⟨i0, hi, hz0, hz1, hz2⟩ := info_parts Try.info22
  rw [run_make w _ 22 i0 _ Try.underlying29 hi hz0 .i64 .i64 n n (by omega) (by omega) (by rw [hz2]; omega) (by omega)]
  have e : madeCells (Value.slice none 0 0).cells ((n : Int).toNat * i0.size) = (List.replicate n (Value.slice none 0 0)).toArray := by
    rw [hz1, Int.toNat_natCast, Nat.mul_one]
    refine Array.ext (by simp [madeCells]) fun i h1 h2 => ?_
    simp [madeCells, Value.cells, Nat.mod_one]
  rw [e, Int.toNat_natCast]

theorem heap_set1 {w : World} {g o : Nat} {P R : List Value} {a x : Value} {T : TypeId} {fr : Nat × Nat} (h : w.heap[g]? = some (.cells (P ++ a :: R).toArray T fr)) (hP : P.length = o) :
    (w.setCell ⟨g, o, none⟩ x).heap[g]? = some (.cells (P ++ [x] ++ R).toArray T fr) := by
  subst hP
  rw [heap_set_same h]
  simp [List.set_append_right]

set_option maxRecDepth 100000 in
set_option maxHeartbeats 2000000 in
theorem cert_unmarshal_cons {C : Array Value} {m g : Nat} {T : TypeId} {fr : Nat × Nat} {v : Value} {L : List (List UInt8)} (w : World) (hm : w.heap[m]? = some (.cells #[.slice none 0 0] 122 (0, 0))) (hg : w.heap[g]? = some (.cells C T fr)) (hgm : g ≠ m)
    (hV : View C g v (wcert L)) (hne : ∀ s ∈ L, s ≠ []) (hT : (vecs 3 L).length + 7 ≤ 16777216) (hL0 : 0 < L.length) :
    Calls Try.prog 80 #[.pointer (some ⟨m, 0, none⟩), v] w fun e w' => ∃ (cs : Array Value) (h : Nat), e = .returned (.bool true) ∧ w'.heap[m]? = some (.cells #[.slice (some ⟨h, 0, none⟩) L.length L.length] 122 (0, 0)) ∧
      w'.heap[h]? = some (.cells cs 22 (0, 0)) ∧ w.heap.size ≤ h ∧ (∀ (j : Nat) (s : List UInt8), L[j]? = some s → ∃ u, cs[j]? = some u ∧ View C g u s) ∧ Fm m w w' := by
  obtain ⟨off, cap, rfl, hcl, hcm, hcell⟩ := id hV
  have hwl := wcert_length L
  obtain ⟨N, hN⟩ : ∃ N, N = (vecs 3 L).length := ⟨_, rfl⟩
  rw [← hN] at hT hwl
  have hn7 : (wcert L).length = N + 7 := hwl
  rw [hn7] at hcl hV
  have f0 : w.cell? ⟨m, 0, none⟩ = some (.slice none 0 0) := by rw [cell_of_heap hm]; rfl
  have hw4 : ∀ i (h : i < 7), w.cell? ⟨g, off + i, none⟩ = some (by8 ((wcert L).getD i 0)) := fun i h => by rw [cell_of_heap hg]; exact hcell i (by omega)
  have e7 : wcert L = [UInt8.ofNat 11, UInt8.ofNat ((3 + N) / 65536), UInt8.ofNat ((3 + N) / 256), UInt8.ofNat (3 + N), UInt8.ofNat (N / 65536), UInt8.ofNat (N / 256), UInt8.ofNat N] ++ vecs 3 L := by
    unfold wcert; rw [← hN, en1, en3, en3]; simp
  have g4 := hw4 4 (by omega)
  have g5 := hw4 5 (by omega)
  have g6 := hw4 6 (by omega)
  rw [e7] at g4 g5 g6
  have hor := u32_be3 (UInt8.ofNat (N / 65536)) (UInt8.ofNat (N / 256)) (UInt8.ofNat N)
  rw [← en3, be_en, Nat.mod_eq_of_lt (by omega)] at hor
  simp only [List.cons_append, List.getD_cons_succ, List.getD_cons_zero] at g4 g5 g6
  generalize UInt8.ofNat (N / 65536) = b0 at g4 hor
  generalize UInt8.ofNat (N / 256) = b1 at g5 hor
  generalize UInt8.ofNat N = b2 at g6 hor
  have HOR := Lib.hid hor
  have HM := Lib.hid hm
  have HG := Lib.hid hg
  have hdrop : (wcert L).drop 7 = vecs 3 L := by rw [e7]; rfl
  have hcm' : cap ≤ 9223372036854775807 := hcm
  have HV := Lib.hid hV
  have HN := Lib.hid hN
  have HE := Lib.hid hdrop
  have V1 : Hid (View C g (.slice (some ⟨g, off + 7, none⟩) N (cap - 7)) (vecs 3 L)) := by
    have h := View.drop (db := g) 7 (by omega) (by omega : (wcert L).length ≤ cap) hcm hcell
    rw [hdrop, hn7] at h
    exact h
  have hLb : L.length ≤ 16777209 := by
    have h := vecs_len 3 L
    omega
  have hcap : ¬ 7 = cap := by
    have h := vecs_len 3 L
    omega
  clear hm hg hV hcell hor hw4 e7 hwl hn7 hcm hdrop hN
  go_enter Try.func80, Try.ntmps80
  rw [show (wcert L).length = N + 7 by rw [wcert_length, HN.out]]
  go_wp2_with fail
  go_quiet (fail)
  rw [HOR.out]
  go_wp2_with fail
  go_loopw [5, 6, 7] (fun cl nc d wr => ∃ j : Nat, j ≤ L.length ∧ cl = .int .u32 ((vecs 3 (L.drop j)).length : Nat) ∧ nc = .int .i64 j ∧ View C g d (vecs 3 (L.drop j)) ∧ wr.os = w.os ∧ wr.tape = w.tape ∧ wr.output = w.output ∧ wr.heap = w.heap) (fun _ nc _ _ => L.length - (intOf nc).toNat)
  case atStart => exact ⟨0, by omega, by rw [List.drop_zero, ← HN.out], rfl, by rw [List.drop_zero]; exact V1.out, rfl, rfl, rfl, rfl⟩
  case round =>
    obtain ⟨j, hj, rfl, rfl, hVd, ho1, ho2, ho3, hh⟩ := hrel
    have HH := Lib.hid hh
    have HO1 := Lib.hid (And.intro ho1 (And.intro ho2 ho3))
    clear ho1 ho2 ho3
    by_cases hjn : j < L.length
    · have hD := vecs_drop hjn
      have hs0 : 0 < L[j].length := List.length_pos_iff.2 (hne _ (List.getElem_mem hjn))
      obtain ⟨D, hDd⟩ : ∃ D, D = vecs 3 (L.drop j) := ⟨_, rfl⟩
      obtain ⟨n, hnD⟩ : ∃ n, n = D.length := ⟨_, rfl⟩
      obtain ⟨len, hlen⟩ : ∃ n, n = L[j].length := ⟨_, rfl⟩
      obtain ⟨n', hn'⟩ : ∃ n, n = (vecs 3 (L.drop (j + 1))).length := ⟨_, rfl⟩
      have hsum : n = 3 + len + n' := by rw [hnD, hDd, hD, hlen, hn']; simp [en_length]; omega
      have hnN : n ≤ 16777209 := by
        have h := vecs_take_drop L j
        rw [← HN.out, ← hDd, ← hnD] at h
        omega
      rw [← hDd] at hVd hD ⊢
      rw [← hnD]
      obtain ⟨offd, capd, rfl, hcl', hcm', hcc⟩ := id hVd
      rw [← hnD] at hVd hcl' ⊢
      obtain ⟨c0, c1, c2, k0, k1, k2, hbe⟩ := view_head3 hVd (by rw [hD, List.append_assoc]) (by omega : L[j].length < 16777216)
      have g0 : wr.cell? ⟨g, offd, none⟩ = some (by8 c0) := by rw [← k0]; exact cell_of_heap (hh ▸ HG.out)
      have g1 : wr.cell? ⟨g, offd + 1, none⟩ = some (by8 c1) := by rw [← k1]; exact cell_of_heap (hh ▸ HG.out)
      have g2 : wr.cell? ⟨g, offd + 2, none⟩ = some (by8 c2) := by rw [← k2]; exact cell_of_heap (hh ▸ HG.out)
      have hor := u32_be3 c0 c1 c2
      rw [hbe, ← hlen] at hor
      have HOR1 := Lib.hid hor
      have hcm2 : capd ≤ 9223372036854775807 := hcm'
      have hs1 : 0 < len := by omega
      have HV1 := Lib.hid hVd
      have HDN := Lib.hid hnD
      have HDD := Lib.hid hD
      have HLEN := Lib.hid hlen
      have HN' := Lib.hid hn'
      have V3 : Hid (View C g (.slice (some ⟨g, offd + (3 + len), none⟩) n' (capd - (3 + len))) (vecs 3 (L.drop (j + 1)))) := by
        have h := View.drop (db := g) (3 + len) (by omega) (by omega : D.length ≤ capd) hcm' hcc
        rw [← hnD, show n - (3 + len) = n' by omega, hD, List.drop_left' (by simp [en_length, hlen])] at h
        exact h
      have V4 : Hid (3 + len = capd → View C g (.slice (some ⟨g, offd, none⟩) 0 0) (vecs 3 (L.drop (j + 1)))) := fun h7 => by
        have h := View.dropAll (C := C) (db := g) (off := offd) (bs := D) (3 + len) (by omega)
        rw [hD, List.drop_left' (by simp [en_length, hlen])] at h
        exact h
      clear hVd hD hDd hnD hlen hn' hcm' hcc k0 k1 k2 hbe hor hs0 hh
      go_wp2_with fail
      go_quiet (fail)
      rw [HOR1.out]
      by_cases hce : 3 + len = capd
      · go_wp2_with fail
        refine ⟨⟨j + 1, by omega, by rw [← HN'.out]; congr 1; omega, by simp, ?_, HO1.out.1, HO1.out.2.1, HO1.out.2.2, HH.out⟩, by simp [intOf]; omega⟩
        rw [show capd + n' - (3 + len) = 0 by omega, show capd - (3 + len) = 0 by omega]
        exact V4.out hce
      · go_wp2_with fail
        refine ⟨⟨j + 1, by omega, by rw [← HN'.out]; congr 1; omega, by simp, ?_, HO1.out.1, HO1.out.2.1, HO1.out.2.2, HH.out⟩, by simp [intOf]; omega⟩
        rw [show 3 + len + n' - (3 + len) = n' by omega]
        exact V3.out
    · have hjn' : j = L.length := by omega
      subst hjn'
      rw [show vecs 3 (L.drop L.length) = [] by simp [vecs], List.length_nil]
      have hsz : wr.heap.size = w.heap.size := by rw [hh]
      have hmk := make_rows wr L.length (by omega)
      rw [hsz] at hmk
      have hml := lt_of_heap HM.out
      have hgl := lt_of_heap HG.out
      have m0 : wr.cell? ⟨m, 0, none⟩ = some (.slice none 0 0) := by rw [cell_of_heap (hh ▸ HM.out)]; rfl
      have mfz : wr.frozen? ⟨m, 0, none⟩ = false := frozen_of_heap (hh ▸ HM.out)
      obtain ⟨off1, cap1, rfl, _⟩ := hVd.slice
      obtain ⟨Z, hZ⟩ : ∃ Z, Z = List.replicate L.length (Value.slice none 0 0) := ⟨_, rfl⟩
      rw [← hZ] at hmk
      have HZ := Lib.hid hZ
      clear hh hVd hZ
      go_wp2_with fail
      go_loopw [9, 7] (fun i d wl => ∃ (j : Nat) (us : List Value), j ≤ L.length ∧ i = .int .i64 j ∧ View C g d (vecs 3 (L.drop j)) ∧ us.length = j ∧ (∀ r (hr : r < L.length), r < j → ∃ u, us[r]? = some u ∧ View C g u L[r]) ∧
          wl.heap[w.heap.size]? = some (.cells (us ++ List.replicate (L.length - j) (Value.slice none 0 0)).toArray 22 (0, 0)) ∧
          wl.heap[m]? = some (.cells #[.slice (some ⟨w.heap.size, 0, none⟩) L.length L.length] 122 (0, 0)) ∧ Fm m w wl) (fun i _ _ => L.length - (intOf i).toNat)
      case atStart =>
        refine ⟨0, [], by omega, rfl, by rw [List.drop_zero]; exact V1.out, rfl, fun r hr h => by omega, ?_, ?_, ?_⟩
        · have h := heap_alloc_new (wr.setCell ⟨m, 0, none⟩ (Value.slice (some ⟨w.heap.size, 0, none⟩) L.length L.length)) (.cells Z.toArray 22)
          rw [show (wr.setCell ⟨m, 0, none⟩ (Value.slice (some ⟨w.heap.size, 0, none⟩) L.length L.length)).heap.size = w.heap.size by simp [World.setCell]; exact hsz] at h
          rw [h, HZ.out]
          rfl
        · rw [Below.heap_alloc _ _ _ (by simp [World.setCell]; omega)]
          exact (heap_set_same (HH.out ▸ HM.out)).trans rfl
        · refine ⟨HO1.out.1, HO1.out.2.1, HO1.out.2.2, by simp [World.setCell]; omega, fun k hk hkm => ?_⟩
          rw [Below.heap_alloc _ _ _ (by simp [World.setCell]; omega), Below.heap_setCell _ _ _ _ hkm, HH.out]
      case round =>
        obtain ⟨j, us, hj, rfl, hVd, hus, hall, hhh, hhm, hF⟩ := hrel
        have HF := Lib.hid hF
        have HHH := Lib.hid hhh
        have HHM := Lib.hid hhm
        have HALL := Lib.hid hall
        have hwg : wr.heap[g]? = some (.cells C T fr) := (hF.keep g hgl hgm).trans HG.out
        by_cases hjn : j < L.length
        · have hD := vecs_drop hjn
          have hs0 : 0 < L[j].length := List.length_pos_iff.2 (hne _ (List.getElem_mem hjn))
          obtain ⟨D, hDd⟩ : ∃ D, D = vecs 3 (L.drop j) := ⟨_, rfl⟩
          obtain ⟨n, hnD⟩ : ∃ n, n = D.length := ⟨_, rfl⟩
          obtain ⟨len, hlen⟩ : ∃ n, n = L[j].length := ⟨_, rfl⟩
          obtain ⟨n', hn'⟩ : ∃ n, n = (vecs 3 (L.drop (j + 1))).length := ⟨_, rfl⟩
          have hsum : n = 3 + len + n' := by rw [hnD, hDd, hD, hlen, hn']; simp [en_length]; omega
          have hnN : n ≤ 16777209 := by
            have h := vecs_take_drop L j
            rw [← HN.out, ← hDd, ← hnD] at h
            omega
          rw [← hDd] at hVd hD
          obtain ⟨offd, capd, rfl, hcl', hcm', hcc⟩ := id hVd
          rw [← hnD] at hVd hcl' ⊢
          obtain ⟨c0, c1, c2, k0, k1, k2, hbe⟩ := view_head3 hVd (by rw [hD, List.append_assoc]) (by omega : L[j].length < 16777216)
          have g0 : wr.cell? ⟨g, offd, none⟩ = some (by8 c0) := by rw [← k0]; exact cell_of_heap hwg
          have g1 : wr.cell? ⟨g, offd + 1, none⟩ = some (by8 c1) := by rw [← k1]; exact cell_of_heap hwg
          have g2 : wr.cell? ⟨g, offd + 2, none⟩ = some (by8 c2) := by rw [← k2]; exact cell_of_heap hwg
          have hor := u32_be3 c0 c1 c2
          rw [hbe, ← hlen] at hor
          have HOR1 := Lib.hid hor
          have hcm2 : capd ≤ 9223372036854775807 := hcm'
          have hs1 : 0 < len := by omega
          have HN' := Lib.hid hn'
          have V3 : Hid (View C g (.slice (some ⟨g, offd + (3 + len), none⟩) n' (capd - (3 + len))) (vecs 3 (L.drop (j + 1)))) := by
            have h := View.drop (db := g) (3 + len) (by omega) (by omega : D.length ≤ capd) hcm' hcc
            rw [← hnD, show n - (3 + len) = n' by omega, hD, List.drop_left' (by simp [en_length, hlen])] at h
            exact h
          have V4 : Hid (3 + len = capd → View C g (.slice (some ⟨g, offd, none⟩) 0 0) (vecs 3 (L.drop (j + 1)))) := fun h7 => by
            have h := View.dropAll (C := C) (db := g) (off := offd) (bs := D) (3 + len) (by omega)
            rw [hD, List.drop_left' (by simp [en_length, hlen])] at h
            exact h
          have V5 : Hid (View C g (.slice (some ⟨g, offd + 3, none⟩) len (capd - 3)) L[j]) := by
            refine ⟨offd + 3, capd - 3, by rw [hlen], by omega, by unfold maxLen at hcm' ⊢; omega, fun i hi => ?_⟩
            have h := hcc (3 + i) (by omega)
            rw [Nat.add_assoc, h, hD, List.append_assoc, List.getD_eq_getElem?_getD, List.getElem?_append_right (by rw [en_length]; omega), en_length, Nat.add_sub_cancel_left, List.getElem?_append_left hi, ← List.getD_eq_getElem?_getD]
          obtain ⟨Q, hQ⟩ : ∃ Q, Q = List.replicate (L.length - (j + 1)) (Value.slice none 0 0) := ⟨_, rfl⟩
          have hh2 := hhh
          rw [show L.length - j = L.length - (j + 1) + 1 by omega, List.replicate_succ, ← hQ] at hh2
          have HH2 := Lib.hid hh2
          have HQ := Lib.hid hQ
          have q0 : wr.cell? ⟨w.heap.size, j, none⟩ = some (.slice none 0 0) := by rw [cell_of_heap hh2, ← hus]; simp
          have qz : wr.frozen? ⟨w.heap.size, j, none⟩ = false := frozen_of_heap hh2
          have qm : wr.cell? ⟨m, 0, none⟩ = some (.slice (some ⟨w.heap.size, 0, none⟩) L.length L.length) := by rw [cell_of_heap hhm]; rfl
          have HUS := Lib.hid hus
          have hnil : ¬ 3 = capd := by omega
          have hnil2 : ¬ capd = 3 := by omega
          have hw3 : IntKind.u32.wrap (3 + (len : Int)) = 3 + (len : Int) := by simp [IntKind.wrap, IntKind.signed, IntKind.bits]; omega
          have hmx : max (3 + (len : Int)) 0 = 3 + (len : Int) := by omega
          have hb1 : (3 : Int) ≤ 3 + (len : Int) := by omega
          have hb2 : 3 + (len : Int) ≤ (capd : Int) := by omega
          have hb3 : 3 + len - 3 = len := by omega
          have hb4 : (3 + (len : Int)).toNat = 3 + len := by omega
          have hb5 : (3 + (len : Int)) % 4294967296 = 3 + (len : Int) := by omega
          clear hVd hD hDd hnD hlen hn' hcm' hcc k0 k1 k2 hbe hor hs0 hhh hhm hall hwg hF hh2 hQ hus
          go_wp2_with fail
          go_quiet (fail)
          rw [HOR1.out]
          go_wp2_with fail
          refine region_ord [(0, true), (1, true), (2, true), (3, true), (4, true), (5, true), (6, true), (7, true), (8, true), (9, true), (10, false)] (fun w' => w'.cell? ⟨m, 0, none⟩ = some (.slice (some ⟨w.heap.size, 0, none⟩) L.length L.length)) mixed (by kernel_rfl) (by kernel_rfl) rfl (by intro c a d v w h; cases d <;> exact h) qm ?_
          iterate 10 (apply wpOrd_pure rfl rfl; apply Exists.intro; refine ⟨fun w' hS => ?_, ?_⟩; (· (first | (go_simp; done) | (go_simp; with_reducible rfl))); simp only [List.getElem_toArray, List.getElem_cons_succ, List.getElem_cons_zero, Act.put, List.setIfInBounds_toArray, List.set_cons_zero, List.set_cons_succ])
          refine wpOrd_last rfl rfl (by kernel_rfl) (fun K hK => ?_)
          simp only [List.getElem_toArray, List.getElem_cons_succ, List.getElem_cons_zero]
          go_simp
          refine hK _ _ ?_
          refine wpOrd_nil ?_
          clear hK K
          by_cases hce : 3 + len = capd
          · go_wp2_with fail
            refine ⟨?_, ?measure⟩
            (repeat apply Exists.intro)
            refine ⟨?rel, rfl⟩
            case rel =>
              refine ⟨j + 1, us ++ [.slice (some ⟨g, offd + 3, none⟩) len (capd - 3)], by omega, by simp, by have h := V4.out hce; rwa [show n' = 0 by omega], by simp [HUS.out], fun r hr h => ?_, ?_, ?_, ?_⟩
              · by_cases e : r = j
                · subst e
                  exact ⟨_, by rw [List.getElem?_append_right (by rw [HUS.out]; omega), HUS.out, Nat.sub_self]; rfl, V5.out⟩
                · obtain ⟨u, hu, hv⟩ := HALL.out r hr (by omega)
                  exact ⟨u, by rw [List.getElem?_append_left (by rw [HUS.out]; omega)]; exact hu, hv⟩
              · have h := heap_set1 (x := Value.slice (some ⟨g, offd + 3, none⟩) len (capd - 3)) HH2.out HUS.out
                rw [HQ.out] at h
                exact h
              · exact (Below.heap_setCell _ _ _ _ (by show m ≠ w.heap.size; omega)).trans HHM.out
              · refine ⟨HF.out.os, HF.out.tape, HF.out.output, by have h := HF.out.size; simpa [World.setCell] using h, fun k hk hkm => ?_⟩
                exact (Below.heap_setCell _ _ _ _ (by show k ≠ w.heap.size; omega)).trans (HF.out.keep k hk hkm)
            case measure => simp [intOf]; omega
          · go_wp2_with fail
            refine ⟨?_, ?measure⟩
            (repeat apply Exists.intro)
            refine ⟨?rel, rfl⟩
            case rel =>
              refine ⟨j + 1, us ++ [.slice (some ⟨g, offd + 3, none⟩) len (capd - 3)], by omega, by simp, V3.out, by simp [HUS.out], fun r hr h => ?_, ?_, ?_, ?_⟩
              · by_cases e : r = j
                · subst e
                  exact ⟨_, by rw [List.getElem?_append_right (by rw [HUS.out]; omega), HUS.out, Nat.sub_self]; rfl, V5.out⟩
                · obtain ⟨u, hu, hv⟩ := HALL.out r hr (by omega)
                  exact ⟨u, by rw [List.getElem?_append_left (by rw [HUS.out]; omega)]; exact hu, hv⟩
              · have h := heap_set1 (x := Value.slice (some ⟨g, offd + 3, none⟩) len (capd - 3)) HH2.out HUS.out
                rw [HQ.out] at h
                exact h
              · exact (Below.heap_setCell _ _ _ _ (by show m ≠ w.heap.size; omega)).trans HHM.out
              · refine ⟨HF.out.os, HF.out.tape, HF.out.output, by have h := HF.out.size; simpa [World.setCell] using h, fun k hk hkm => ?_⟩
                exact (Below.heap_setCell _ _ _ _ (by show k ≠ w.heap.size; omega)).trans (HF.out.keep k hk hkm)
            case measure => simp [intOf]; omega
        · have hjn' : j = L.length := by omega
          subst hjn'
          obtain ⟨off2, cap2, rfl, _⟩ := hVd.slice
          have hhh2 := hhh
          rw [Nat.sub_self, List.replicate_zero, List.append_nil] at hhh2
          have H2 := Lib.hid hhh2
          clear hhh hhm hall hwg hF hhh2 hVd
          go_wp2_with fail
          go_ret
          refine ⟨us.toArray, w.heap.size, rfl, HHM.out, H2.out, Nat.le_refl _, fun r s hr => ?_, HF.out⟩
          have hrl := (List.getElem?_eq_some_iff.1 hr).1
          obtain ⟨u, hu, hv⟩ := HALL.out r hrl hrl
          have hs := (List.getElem?_eq_some_iff.1 hr).2
          exact ⟨u, by simpa using hu, hs ▸ hv⟩

end Go.Proofs.Ytopcljikkdlffaa
