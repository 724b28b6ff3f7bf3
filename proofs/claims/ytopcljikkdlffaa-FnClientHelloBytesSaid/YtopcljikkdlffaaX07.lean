/- A Certificate up to TLS 1.2 is made. A Certificate up to TLS 1.2 is made (whole) and read. A Certificate up to TLS 1.2 is read. No statement of the seat is proved here. -/
import Derived.Test.YtopcljikkdlffaaX06
namespace Go.Proofs.Ytopcljikkdlffaa
open Go.RowKit

/-- The lengths together. -/
def lens (L : List (List UInt8)) : Nat := (L.map List.length).sum

theorem lens_take_succ {L : List (List UInt8)} {j : Nat} (h : j < L.length) : lens (L.take (j + 1)) = lens (L.take j) + L[j].length := by
  rw [take_snoc h]; unfold lens; rw [List.map_append, List.sum_append_nat]; simp

theorem vecs_len (k : Nat) (L : List (List UInt8)) : (vecs k L).length = k * L.length + lens L := by
  induction L with
  | nil => simp [vecs, lens]
  | cons s L ih =>
    have e : (vecs k (s :: L)).length = k + s.length + (vecs k L).length := by unfold vecs; rw [List.flatMap_cons, List.length_append, List.length_append, en_length]
    have e2 : lens (s :: L) = s.length + lens L := by simp [lens]
    rw [e, ih, e2, List.length_cons, Nat.mul_add]
    omega

theorem lens_take_le (L : List (List UInt8)) (j : Nat) : lens (L.take j) ≤ lens L := by
  have h : lens L = lens (L.take j) + lens (L.drop j) := by
    unfold lens
    rw [← List.sum_append_nat, ← List.map_append, List.take_append_drop]
  omega

theorem heap_set3 {w : World} {g o : Nat} {P R : List Value} {a0 a1 a2 x0 x1 x2 : Value} {T : TypeId} {fr : Nat × Nat} (h : w.heap[g]? = some (.cells (P ++ a0 :: a1 :: a2 :: R).toArray T fr)) (hP : P.length = o) :
    (((w.setCell ⟨g, o, none⟩ x0).setCell ⟨g, o + 1, none⟩ x1).setCell ⟨g, o + 2, none⟩ x2).heap[g]? = some (.cells (P ++ x0 :: x1 :: x2 :: R).toArray T fr) := by
  subst hP
  rw [heap_set_same (heap_set_same (heap_set_same h))]
  simp [List.set_append_right]

theorem infoSize8 : (Try.prog.info? 5).map (·.size) = some 1 := by kernel_rfl

theorem splice_row {P cs : List Value} {x0 x1 x2 z : Value} {o M : Nat} (hP : P.length = o) (_hc : cs.length ≤ M) :
    splice (P ++ x0 :: x1 :: x2 :: List.replicate M z) (o + 3) cs = P ++ [x0, x1, x2] ++ cs ++ List.replicate (M - cs.length) z := by
  subst hP
  have e : P ++ x0 :: x1 :: x2 :: List.replicate M z = (P ++ [x0, x1, x2]) ++ List.replicate M z := by simp
  have hl : (P ++ [x0, x1, x2]).length = P.length + 3 := by simp
  unfold splice
  rw [e, ← hl, List.take_left', List.drop_append]
  · simp
  · rfl

/-- The first seven bytes. -/
def chead (N : Nat) : List UInt8 := en 1 11 ++ en 3 (3 + N) ++ en 3 N

set_option maxRecDepth 100000 in
set_option maxHeartbeats 1000000 in
theorem cert_marshal_nil {m : Nat} {ad : Option Addr} {cap : Nat} (w : World) (hm : w.heap[m]? = some (.cells #[.slice ad 0 cap] 122 (0, 0))) :
    Calls Try.prog 79 #[.pointer (some ⟨m, 0, none⟩)] w fun e w' => ∃ v, e = .returned (.tuple #[v, .nilIface]) ∧
      w'.ownsRow w.heap.size 5 1 v 7 ((wcert []).map by8) ∧ Below w.heap.size w w' := by
  have f0 : w.cell? ⟨m, 0, none⟩ = some (.slice ad 0 cap) := by rw [cell_of_heap hm]; rfl
  have hml := lt_of_heap hm
  have hmk : (Instr.makeSlice 22 (.int .i64 7) (.int .i64 7)).run Try.prog w = .ok (.slice (some ⟨w.heap.size, 0, none⟩) 7 7) (w.alloc (.cells #[.int .u8 0, .int .u8 0, .int .u8 0, .int .u8 0, .int .u8 0, .int .u8 0, .int .u8 0] 5)) := make_row w 7 (by omega)
  clear hm
  go_enter Try.func79, Try.ntmps79
  go_wp2_with fail
  go_loop [4, 18] (fun t i => i = .int .i64 0 ∧ t = .int .i64 0) (fun _ _ => 0)
  case atStart => exact ⟨rfl, rfl⟩
  case round =>
    obtain ⟨rfl, rfl⟩ := hrel
    go_wp2_with fail
    go_loop [10, 78] (fun _ i => i = .int .i64 0) (fun _ _ => 0)
    case atStart => rfl
    case round =>
      obtain rfl := hrel
      go_wp2_with fail
      go_ret2
      exact ⟨_, rfl, ⟨rfl, .inr ⟨w.heap.size, 7, _, rfl, Nat.le_refl _, heap_alloc_new _ _, Nat.le_refl _, by unfold maxLen; omega, rfl, rfl⟩⟩, (Below.refl _ w).alloc (Nat.le_refl _) _⟩

theorem chead_cells (n S N : Nat) (h : N = 3 * n + S) (hN : N + 7 ≤ 16777216) :
    (Value.int IntKind.u8 11 :: Value.int IntKind.u8 ((3 + 3 * (n : Int) + S) / 65536 % 256) :: Value.int IntKind.u8 ((3 + 3 * (n : Int) + S) / 256 % 256) :: Value.int IntKind.u8 ((3 + 3 * (n : Int) + S) % 256) ::
      Value.int IntKind.u8 ((3 + 3 * (n : Int) + S - 3) / 65536) :: Value.int IntKind.u8 ((3 + 3 * (n : Int) + S - 3) / 256 % 256) :: Value.int IntKind.u8 ((3 + 3 * (n : Int) + S - 3) % 256) :: ([] : List Value)) = (chead N).map by8 := by
  unfold chead
  rw [en1, en3, en3]
  have e1 : by8 (UInt8.ofNat 11) = .int .u8 11 := rfl
  have e2 : by8 (UInt8.ofNat ((3 + N) / 65536)) = .int .u8 ((3 + 3 * (n : Int) + S) / 65536 % 256) := by8_int (by omega)
  have e3 : by8 (UInt8.ofNat ((3 + N) / 256)) = .int .u8 ((3 + 3 * (n : Int) + S) / 256 % 256) := by8_int (by omega)
  have e4 : by8 (UInt8.ofNat (3 + N)) = .int .u8 ((3 + 3 * (n : Int) + S) % 256) := by8_int (by omega)
  have e5 : by8 (UInt8.ofNat (N / 65536)) = .int .u8 ((3 + 3 * (n : Int) + S - 3) / 65536) := by8_int (by omega)
  have e6 : by8 (UInt8.ofNat (N / 256)) = .int .u8 ((3 + 3 * (n : Int) + S - 3) / 256 % 256) := by8_int (by omega)
  have e7 : by8 (UInt8.ofNat N) = .int .u8 ((3 + 3 * (n : Int) + S - 3) % 256) := by8_int (by omega)
  simp only [List.map_append, List.map_cons, List.map_nil, e1, e2, e3, e4, e5, e6, e7]
  rfl

set_option maxRecDepth 100000 in
set_option maxHeartbeats 1000000 in
theorem cert_marshal_cons {m : Nat} {L : List (List UInt8)} {v : Value} (w : World) (hm : w.heap[m]? = some (.cells #[v] 122 (0, 0))) (hL : LstB w w.heap.size v L) (hne : ∀ s ∈ L, s ≠ []) (hT : (vecs 3 L).length + 7 ≤ 16777216) (hL0 : 0 < L.length) :
    Calls Try.prog 79 #[.pointer (some ⟨m, 0, none⟩)] w fun e w' => ∃ v, e = .returned (.tuple #[v, .nilIface]) ∧
      w'.ownsRow w.heap.size 5 1 v ((vecs 3 L).length + 7) ((wcert L).map by8) ∧ Below w.heap.size w w' := by
  obtain ⟨ad, cap, rfl, hx⟩ := hL.len
  have f0 : w.cell? ⟨m, 0, none⟩ = some (.slice ad L.length cap) := by rw [cell_of_heap hm]; rfl
  have hvl := vecs_len 3 L
  have HL := Lib.hid hL
  have hml := lt_of_heap hm
  clear hL hm
  go_enter Try.func79, Try.ntmps79
  go_wp2_with fail
  go_loop [4, 18] (fun t i => ∃ j : Nat, j ≤ L.length ∧ i = .int .i64 j ∧ t = .int .i64 (lens (L.take j) : Nat)) (fun _ i => L.length - (intOf i).toNat)
  case atStart => exact ⟨0, by omega, rfl, rfl⟩
  case round =>
    obtain ⟨j, hj, rfl, rfl⟩ := hrel
    by_cases hjn : j < L.length
    · obtain ⟨x, rfl⟩ := hx (by omega)
      obtain ⟨u, hu, hsrc⟩ := HL.out.at hjn
      obtain ⟨ad1, cap1, rfl⟩ := hsrc.len
      clear hsrc
      have h1 := lens_take_succ hjn
      have h2 := lens_take_le L (j + 1)
      have h3 := lens_take_le L j
      have H1 := Lib.hid h1
      clear h1
      have hw : wrap64 ((lens (L.take j) : Int) + (L[j].length : Int)) = ((lens (L.take (j + 1)) : Nat) : Int) := by
        rw [IntWalk.wrap64_in _ ⟨by omega, by have := H1.out; omega⟩, H1.out]; omega
      have HWR := Lib.hid hw
      clear hw
      go_wp2_with fail
      exact ⟨⟨j + 1, by omega, by simp, by rw [HWR.out]⟩, by simp [intOf]; omega⟩
    · have hjn' : j = L.length := by omega
      subst hjn'
      rw [List.take_length]
      obtain ⟨N, hN⟩ : ∃ N, N = (vecs 3 L).length := ⟨_, rfl⟩
      rw [← hN] at hT hvl
      have hN0 : N ≠ 0 := by omega
      obtain ⟨R, hR⟩ : ∃ R, R = List.replicate N (Value.int .u8 0) := ⟨_, rfl⟩
      have hmk := make_row w (N + 7) (by omega)
      rw [show List.replicate (N + 7) (Value.int .u8 0) = .int .u8 0 :: .int .u8 0 :: .int .u8 0 :: .int .u8 0 :: .int .u8 0 :: .int .u8 0 :: .int .u8 0 :: R by rw [hR]; rfl, show ((N + 7 : Nat) : Int) = 4 + (3 + 3 * (L.length : Int) + (lens L : Int)) by omega] at hmk
      have HR := Lib.hid hR
      have HNN := Lib.hid hN
      have HVL := Lib.hid hvl
      have hb1 : 3 + 3 * (L.length : Int) + (lens L : Int) ≤ 16777216 := by omega
      have hb0 : 0 ≤ (lens L : Int) := by omega
      have HCH := Lib.hid (chead_cells L.length (lens L) N hvl hT)
      clear hR hN hvl
      go_wp2_with fail
      go_loopw [10, 78] (fun y i wr => ∃ (j M o : Nat), j ≤ L.length ∧ i = .int .i64 j ∧ y = .slice (some ⟨w.heap.size, o, none⟩) M M ∧ M + (vecs 3 (L.take j)).length = N ∧ (0 < M → o = 7 + (vecs 3 (L.take j)).length) ∧
          wr.heap[w.heap.size]? = some (.cells ((chead N ++ vecs 3 (L.take j)).map by8 ++ List.replicate M (Value.int .u8 0)).toArray 5 (0, 0)) ∧ Below w.heap.size w wr) (fun _ i _ => L.length - (intOf i).toNat)
      case atStart =>
        refine ⟨0, N, 7, by omega, rfl, rfl, by simp [vecs], fun _ => by simp [vecs], ?_, (Below.refl _ w).alloc (Nat.le_refl _) _⟩
        rw [heap_alloc_new]
        have e : vecs 3 (L.take 0) = [] := by simp [vecs]
        rw [e, List.append_nil, ← HCH.out, ← HR.out]
        rfl
      case round =>
        obtain ⟨j, M, o, hj, rfl, rfl, hM, ho, hg, hB⟩ := hrel
        have HB := Lib.hid hB
        have HG := Lib.hid hg
        have HO := Lib.hid ho
        have HMM := Lib.hid hM
        clear hB hg ho hM
        by_cases hjn : j < L.length
        · obtain ⟨x, rfl⟩ := hx (by omega)
          obtain ⟨u, hu, hsrc⟩ := (HL.out.keep (Nat.le_refl _) HB.out.block).at hjn
          have hc1 := hne _ (List.getElem_mem hjn)
          have hnx : (vecs 3 (L.take (j + 1))).length = (vecs 3 (L.take j)).length + 3 + L[j].length := by rw [take_snoc hjn, vecs_snoc]; simp [en_length]; omega
          have hle := vecs_le (k := 3) L (j + 1)
          obtain ⟨len, hlen⟩ : ∃ n, n = L[j].length := ⟨_, rfl⟩
          obtain ⟨adj, capj, rfl⟩ := hsrc.len
          have hl0 : 0 < len := by rw [hlen]; exact List.length_pos_iff.2 hc1
          rw [← hlen] at hnx hu
          have hM3 : 3 + len ≤ M := by have := HMM.out; have := HNN.out; omega
          have ho7 := HO.out (by omega)
          obtain ⟨M3, rfl⟩ : ∃ M3, M = M3 + 3 := ⟨M - 3, by omega⟩
          obtain ⟨P, hP⟩ : ∃ P, P = (chead N ++ vecs 3 (L.take j)).map by8 := ⟨_, rfl⟩
          have hPl : P.length = o := by rw [hP, List.length_map, List.length_append, ho7]; simp [chead, en_length]
          obtain ⟨R3, hR3⟩ : ∃ R3, R3 = List.replicate M3 (Value.int .u8 0) := ⟨_, rfl⟩
          have hR3l : R3.length = M3 := by rw [hR3]; simp
          have hg := HG.out
          rw [show List.replicate (M3 + 3) (Value.int .u8 0) = .int .u8 0 :: .int .u8 0 :: .int .u8 0 :: List.replicate M3 (Value.int .u8 0) from rfl, ← hP, ← hR3] at hg
          have c0 : wr.cell? ⟨w.heap.size, o, none⟩ = some (.int .u8 0) := by rw [cell_of_heap hg, ← hPl]; simp
          have c1 : wr.cell? ⟨w.heap.size, o + 1, none⟩ = some (.int .u8 0) := by rw [cell_of_heap hg, List.getElem?_toArray, List.getElem?_append_right (by omega), show o + 1 - P.length = 1 by omega]; rfl
          have c2 : wr.cell? ⟨w.heap.size, o + 2, none⟩ = some (.int .u8 0) := by rw [cell_of_heap hg, List.getElem?_toArray, List.getElem?_append_right (by omega), show o + 2 - P.length = 2 by omega]; rfl
          have hfz : ∀ k, wr.frozen? ⟨w.heap.size, k, none⟩ = false := fun k => frozen_of_heap hg
          have HG4 : Hid (∀ x0 x1 x2, (((wr.setCell ⟨w.heap.size, o, none⟩ x0).setCell ⟨w.heap.size, o + 1, none⟩ x1).setCell ⟨w.heap.size, o + 2, none⟩ x2).heap[w.heap.size]? = some (.cells (P ++ x0 :: x1 :: x2 :: R3).toArray 5 (0, 0))) := fun x0 x1 x2 => heap_set3 hg hPl
          have HP := Lib.hid hP
          have HR3 := Lib.hid hR3
          have HR3L := Lib.hid hR3l
          clear hP hR3 hR3l
          have HLEN := Lib.hid hlen
          have HSRC := Lib.hid hsrc
          have HNX := Lib.hid hnx
          have HPL := Lib.hid hPl
          have HLE := Lib.hid hle
          have hlb : (len : Int) ≤ 16777209 := by have := HNN.out; omega
          obtain ⟨a', ha', rfl⟩ : ∃ a', a'.block < w.heap.size ∧ adj = some a' := by
            rcases hsrc with ⟨e, h⟩ | ⟨a', c', e, hlt, _⟩
            · exact (hc1 h).elim
            · simp only [Value.slice.injEq] at e
              exact ⟨a', hlt hc1, e.1⟩
          obtain ⟨CS, hCS⟩ : ∃ CS, CS = L[j].map by8 := ⟨_, rfl⟩
          have hnews : Hid (∀ x0 x1 x2 i v, CS[i]? = some v → (((wr.setCell ⟨w.heap.size, o, none⟩ x0).setCell ⟨w.heap.size, o + 1, none⟩ x1).setCell ⟨w.heap.size, o + 2, none⟩ x2).cell? (a'.add i) = some v) := by
            intro x0 x1 x2 i v hi
            rw [hCS] at hi
            have h := hsrc.below ((((Below.refl w.heap.size wr).setCell (p := ⟨w.heap.size, o, none⟩) (Nat.le_refl _) x0).setCell (p := ⟨w.heap.size, o + 1, none⟩) (Nat.le_refl _) x1).setCell (p := ⟨w.heap.size, o + 2, none⟩) (Nat.le_refl _) x2)
            rcases h with ⟨e, _⟩ | ⟨ad2, c2, e, _, hc⟩
            · cases e
            · simp only [Value.slice.injEq, Option.some.injEq] at e
              obtain ⟨rfl, _, _⟩ := e
              exact hc i v hi
          have hCl : CS.length = len := by rw [hCS, List.length_map]; exact hlen.symm
          have HCL := Lib.hid hCl
          have HCS := Lib.hid hCS
          have hone : Hid (∀ v ∈ CS, v.oneCell' = true) := by
            intro v hv
            rw [hCS] at hv
            obtain ⟨b, _, rfl⟩ := List.mem_map.1 hv
            rfl
          have hM33 : len ≤ M3 := by omega
          obtain ⟨F, hF, hF2⟩ : ∃ F : Value → Value → Value → World, (∀ x0 x1 x2, (Builtin.copy_ #[22, 22] 3 #[Value.slice (some ⟨w.heap.size, o + 3, none⟩) M3 M3, Value.slice (some a') len capj]).run Try.prog (((wr.setCell ⟨w.heap.size, o, none⟩ x0).setCell ⟨w.heap.size, o + 1, none⟩ x1).setCell ⟨w.heap.size, o + 2, none⟩ x2) = .ok (.int .i64 len) (F x0 x1 x2)) ∧
              Hid (∀ x0 x1 x2, (F x0 x1 x2).heap[w.heap.size]? = some (.cells (P ++ [x0, x1, x2] ++ CS ++ List.replicate (M3 - len) (Value.int .u8 0)).toArray 5 (0, 0)) ∧ Below w.heap.size w (F x0 x1 x2)) := by
            refine ⟨fun x0 x1 x2 => (((wr.setCell ⟨w.heap.size, o, none⟩ x0).setCell ⟨w.heap.size, o + 1, none⟩ x1).setCell ⟨w.heap.size, o + 2, none⟩ x2).setRow w.heap.size (splice (P ++ x0 :: x1 :: x2 :: R3) (o + 3) CS).toArray, fun x0 x1 x2 => ?_, fun x0 x1 x2 => ⟨?_, ?_⟩⟩
            · have h := run_copy_row (P := Try.prog) (((wr.setCell ⟨w.heap.size, o, none⟩ x0).setCell ⟨w.heap.size, o + 1, none⟩ x1).setCell ⟨w.heap.size, o + 2, none⟩ x2) 22 22 3 5 w.heap.size (o + 3) M3 M3 a' len capj (P ++ x0 :: x1 :: x2 :: R3).toArray 5 CS Try.underlying22 infoSize8 (HG4.out _ _ _) (by rw [hCl]; exact (Nat.min_eq_left hM33).symm) (hnews.out _ _ _) (by have h3 := HR3L.out; simp only [List.size_toArray, List.length_append, List.length_cons]; omega) hone.out
              rw [hCl, List.append_assoc] at h
              refine h.trans ?_
              simp only [splice, hCl]
              rfl
            · have h := setRow_heap _ w.heap.size (P ++ x0 :: x1 :: x2 :: R3).toArray (splice (P ++ x0 :: x1 :: x2 :: R3) (o + 3) CS).toArray _ _ (HG4.out x0 x1 x2)
              refine h.trans ?_
              rw [HR3.out, splice_row hPl (by rw [hCl]; exact hM33), hCl]
            · exact below_setRow (((HB.out.setCell (Nat.le_refl _) _).setCell (Nat.le_refl _) _).setCell (Nat.le_refl _) _) (Nat.le_refl _) _
          have hrow : P ++ [Value.int .u8 ((len : Int) / 65536), Value.int .u8 ((len : Int) / 256 % 256), Value.int .u8 ((len : Int) % 256)] ++ CS = (chead N ++ vecs 3 (L.take (j + 1))).map by8 := by
            have e1 : by8 (UInt8.ofNat (len / 65536)) = .int .u8 ((len : Int) / 65536) := by8_int (by omega)
            have e2 : by8 (UInt8.ofNat (len / 256)) = .int .u8 ((len : Int) / 256 % 256) := by8_int (by omega)
            have e3 : by8 (UInt8.ofNat len) = .int .u8 ((len : Int) % 256) := by8_int (by omega)
            rw [take_snoc hjn, vecs_snoc, ← hlen, en3, HP.out, hCS]
            simp only [List.map_append, List.map_cons, List.map_nil, e1, e2, e3, List.append_assoc]
          have HROW := Lib.hid hrow
          have HO7 := Lib.hid ho7
          clear hg hlen hsrc hnx hPl hle ho7 hc1 hCl hCS hrow
          rcases Nat.eq_or_lt_of_le hM33 with rfl | hend
          · go_wp2_with fail
            have h1 := HNX.out
            have h2 := HMM.out
            have h3 := HO7.out
            have h4 := hF2.out (Value.int .u8 ((len : Int) / 65536)) (Value.int .u8 ((len : Int) / 256 % 256)) (Value.int .u8 ((len : Int) % 256))
            rw [HROW.out] at h4
            refine ⟨⟨j + 1, 0, o, by omega, by simp, by congr 1 <;> omega, by omega, fun h => by omega, ?_, h4.2⟩, by simp [intOf]; omega⟩
            rw [h4.1, Nat.sub_self]
          · go_wp2_with fail
            have h1 := HNX.out
            have h2 := HMM.out
            have h3 := HO7.out
            have h4 := hF2.out (Value.int .u8 ((len : Int) / 65536)) (Value.int .u8 ((len : Int) / 256 % 256)) (Value.int .u8 ((len : Int) % 256))
            rw [HROW.out] at h4
            refine ⟨⟨j + 1, M3 - len, o + (3 + len), by omega, by simp, by congr 1 <;> omega, by omega, fun h => by omega, ?_, h4.2⟩, by simp [intOf]; omega⟩
            rw [h4.1]
        · have hjn' : j = L.length := by omega
          subst hjn'
          have h2 := HMM.out
          have h5 := HNN.out
          rw [List.take_length, ← h5] at h2
          have hg := HG.out
          obtain rfl : M = 0 := by omega
          rw [List.take_length] at hg
          have HG5 := Lib.hid hg
          clear hg h2 h5
          go_wp2_with fail
          go_ret2
          refine ⟨_, rfl, ?_, HB.out⟩
          rw [← HNN.out]
          have e : wcert L = chead N ++ vecs 3 L := by unfold wcert chead; rw [← HNN.out]; simp
          rw [e]
          refine ⟨by rw [List.length_map, List.length_append, ← HNN.out]; simp [chead, en_length]; omega, .inr ⟨w.heap.size, N + 7, _, rfl, Nat.le_refl _, HG5.out, Nat.le_refl _, by unfold maxLen; omega, ?_, ?_⟩⟩
          · simp [chead, en_length, ← HNN.out]; omega
          · simp only [List.replicate_zero, List.append_nil]
            rw [List.take_of_length_le]
            simp [chead, en_length, ← HNN.out]; omega

end Go.Proofs.Ytopcljikkdlffaa
namespace Go.Proofs.Ytopcljikkdlffaa
open Go.RowKit

theorem cert_marshal {m : Nat} {L : List (List UInt8)} {v : Value} (w : World) (hm : w.heap[m]? = some (.cells #[v] 122 (0, 0))) (hL : LstB w w.heap.size v L) (hne : ∀ s ∈ L, s ≠ []) (hT : (vecs 3 L).length + 7 ≤ 16777216) :
    Calls Try.prog 79 #[.pointer (some ⟨m, 0, none⟩)] w fun e w' => ∃ v, e = .returned (.tuple #[v, .nilIface]) ∧
      w'.ownsRow w.heap.size 5 1 v ((vecs 3 L).length + 7) ((wcert L).map by8) ∧ Below w.heap.size w w' := by
  cases L with
  | nil =>
    obtain ⟨ad, cap, rfl, _⟩ := hL.len
    exact cert_marshal_nil w hm
  | cons s L => exact cert_marshal_cons w hm hL hne hT (by simp)

set_option maxRecDepth 100000 in
set_option maxHeartbeats 400000 in
theorem cert_tls {L : List (List UInt8)} {v : Value} (w : World) (hL : LstB w w.heap.size v L) (hne : ∀ s ∈ L, s ≠ []) (hT : (vecs 3 L).length + 7 ≤ 16777216) :
    Calls Try.prog 46 #[v] w fun e w' => ∃ v, e = .returned (.tuple #[v, .nilIface]) ∧ w'.ownsRow w.heap.size 5 1 v ((vecs 3 L).length + 7) ((wcert L).map by8) ∧ Below w.heap.size w w' := by
  obtain ⟨ad, cap, rfl, _⟩ := hL.len
  have HL := Lib.hid (hL.keep (w' := w.alloc (.cells #[.slice ad L.length cap] 122)) (base' := (w.alloc (.cells #[.slice ad L.length cap] 122)).heap.size) (by simp) (fun k hk => Below.heap_alloc _ _ _ hk))
  clear hL
  go_enter Try.func46, Try.ntmps46
  go_wp2_with fail
  refine (cert_marshal (m := w.heap.size) _ (heap_alloc_new _ _) HL.out hne hT).mono ?_
  rintro e w1 ⟨v, rfl, hown, hbel⟩
  have HO := Lib.hid hown
  have HB := Lib.hid hbel
  clear hown hbel
  go_wp2_with fail
  go_ret2
  exact ⟨v, rfl, ownsRow_mono HO.out (by simp), ((Below.refl _ w).alloc (Nat.le_refl _) _).trans (HB.out.mono (by simp))⟩

set_option maxRecDepth 100000 in
set_option maxHeartbeats 400000 in
theorem cert_impl {L : List (List UInt8)} {v : Value} (w : World) (hL : LstB w w.heap.size v L) (hne : ∀ s ∈ L, s ≠ []) (hT : (vecs 3 L).length + 7 ≤ 16777216) :
    Calls Try.prog 21 #[v] w fun e w' => ∃ v, e = .returned (.tuple #[v, .bool true]) ∧ w'.ownsRow w.heap.size 5 1 v ((vecs 3 L).length + 7) ((wcert L).map by8) ∧ Below w.heap.size w w' := by
  have HL := Lib.hid hL
  clear hL
  go_enter Try.func21, Try.ntmps21
  go_wp2_with fail
  refine (cert_tls w HL.out hne hT).mono ?_
  rintro e w1 ⟨v, rfl, hown, hbel⟩
  have HO := Lib.hid hown
  have HB := Lib.hid hbel
  clear hown hbel
  go_wp2_with fail
  go_quiet (fail)
  go_wp2_with fail
  go_ret2
  exact ⟨v, rfl, HO.out, Below_drewN HB.out nq⟩

end Go.Proofs.Ytopcljikkdlffaa
namespace Go.Proofs.Ytopcljikkdlffaa
open Go.RowKit

theorem u32_be3 (b0 b1 b2 : UInt8) : bits BinOp.or IntKind.u32 (bits BinOp.or IntKind.u32 (((b0.toNat : Int) % 4294967296 * 65536) % 4294967296) (((b1.toNat : Int) % 4294967296 * 256) % 4294967296)) ((b2.toNat : Int) % 4294967296) = ((be [b0, b1, b2] : Nat) : Int) := by
  have h0 := b0.toNat_lt
  have h1 := b1.toNat_lt
  have h2 := b2.toNat_lt
  have e0 : ((b0.toNat : Int) % 4294967296 * 65536) % 4294967296 = ((b0.toNat * 65536 : Nat) : Int) := by omega
  have e1 : ((b1.toNat : Int) % 4294967296 * 256) % 4294967296 = ((b1.toNat * 256 : Nat) : Int) := by omega
  have e2 : (b2.toNat : Int) % 4294967296 = ((b2.toNat : Nat) : Int) := by omega
  rw [e0, e1, e2, u32_or_nat _ _ (by omega) (by omega), or_mul _ b0.toNat 16 65536 (by decide) (by omega)]
  rw [show b0.toNat * 65536 + b1.toNat * 256 = (b0.toNat * 256 + b1.toNat) * 256 by omega, u32_or_nat _ _ (by omega) (by omega), or_mul _ _ 8 256 (by decide) (by omega)]
  simp [be]

/-- What is left behind j vectors. -/
theorem vecs_drop {L : List (List UInt8)} {j : Nat} (h : j < L.length) : vecs 3 (L.drop j) = en 3 L[j].length ++ L[j] ++ vecs 3 (L.drop (j + 1)) := by
  unfold vecs
  rw [List.drop_eq_getElem_cons h, List.flatMap_cons]

theorem vecs_take_drop (L : List (List UInt8)) (j : Nat) : (vecs 3 (L.take j)).length + (vecs 3 (L.drop j)).length = (vecs 3 L).length := by
  have h : vecs 3 L = vecs 3 (L.take j) ++ vecs 3 (L.drop j) := by unfold vecs; rw [← List.flatMap_append, List.take_append_drop]
  rw [h]; simp

/-- What the reading leaves alone: every block that was there but m. -/
structure Fm (m : Nat) (w w' : World) : Prop where
  os : w'.os = w.os
  tape : w'.tape = w.tape
  output : w'.output = w.output
  size : w.heap.size ≤ w'.heap.size
  keep : ∀ k, k < w.heap.size → k ≠ m → w'.heap[k]? = w.heap[k]?

/-- The three bytes at the head of a view, as one number. -/
theorem view_head3 {C : Array Value} {g off n cap : Nat} {bs r : List UInt8} {k : Nat} (hV : View C g (.slice (some ⟨g, off, none⟩) n cap) bs) (hb : bs = en 3 k ++ r) (hk : k < 16777216) :
    ∃ b0 b1 b2, C[off]? = some (by8 b0) ∧ C[off + 1]? = some (by8 b1) ∧ C[off + 2]? = some (by8 b2) ∧ be [b0, b1, b2] = k := by
  obtain ⟨hn, hc⟩ := hV.at
  rw [en3] at hb
  subst hb
  refine ⟨_, _, _, by simpa using hc 0 (by simp), by simpa using hc 1 (by simp), by simpa using hc 2 (by simp), ?_⟩
  rw [← en3, be_en, Nat.mod_eq_of_lt (by omega)]

theorem Try.info22 : (Try.prog.info? 22).map (fun i => (i.zero, i.size, i.bytes)) = some (some (.slice none 0 0), 1, 24) := by kernel_rfl

/-- A row of slices is made. -/
theorem make_rows (w : World) (n : Nat) (h : n ≤ 16777216) : (Instr.makeSlice 29 (.int .i64 n) (.int .i64 n)).run Try.prog w = .ok (.slice (some ⟨w.heap.size, 0, none⟩) n n) (w.alloc (.cells (List.replicate n (Value.slice none 0 0)).toArray 22)) := by
  obtain ⟨i0, hi, hz0, hz1, hz2⟩ := info_parts Try.info22
  rw [run_make w _ 22 i0 _ Try.underlying29 hi hz0 .i64 .i64 n n (by omega) (by omega) (by rw [hz2]; omega) (by omega)]
  have e : madeCells (Value.slice none 0 0).cells ((n : Int).toNat * i0.size) = (List.replicate n (Value.slice none 0 0)).toArray := by
    rw [hz1, Int.toNat_natCast, Nat.mul_one]
    refine Array.ext (by simp [madeCells]) fun i h1 h2 => ?_
    simp [madeCells, Value.cells, Nat.mod_one]
  rw [e, Int.toNat_natCast]

theorem heap_set1 {w : World} {g o : Nat} {P R : List Value} {a x : Value} {T : TypeId} {fr : Nat × Nat} (h : w.heap[g]? = some (.cells (P ++ a :: R).toArray T fr)) (hP : P.length = o) :
    (w.setCell ⟨g, o, none⟩ x).heap[g]? = some (.cells (P ++ [x] ++ R).toArray T fr) := by
  subst hP
  rw [heap_set_same h]
  simp [List.set_append_right]

set_option maxRecDepth 100000 in
set_option maxHeartbeats 2000000 in
theorem cert_unmarshal_cons {C : Array Value} {m g : Nat} {T : TypeId} {fr : Nat × Nat} {v : Value} {L : List (List UInt8)} (w : World) (hm : w.heap[m]? = some (.cells #[.slice none 0 0] 122 (0, 0))) (hg : w.heap[g]? = some (.cells C T fr)) (hgm : g ≠ m)
    (hV : View C g v (wcert L)) (hne : ∀ s ∈ L, s ≠ []) (hT : (vecs 3 L).length + 7 ≤ 16777216) (hL0 : 0 < L.length) :
    Calls Try.prog 80 #[.pointer (some ⟨m, 0, none⟩), v] w fun e w' => ∃ (cs : Array Value) (h : Nat), e = .returned (.bool true) ∧ w'.heap[m]? = some (.cells #[.slice (some ⟨h, 0, none⟩) L.length L.length] 122 (0, 0)) ∧
      w'.heap[h]? = some (.cells cs 22 (0, 0)) ∧ w.heap.size ≤ h ∧ (∀ (j : Nat) (s : List UInt8), L[j]? = some s → ∃ u, cs[j]? = some u ∧ View C g u s) ∧ Fm m w w' := by
  obtain ⟨off, cap, rfl, hcl, hcm, hcell⟩ := id hV
  have hwl := wcert_length L
  obtain ⟨N, hN⟩ : ∃ N, N = (vecs 3 L).length := ⟨_, rfl⟩
  rw [← hN] at hT hwl
  have hn7 : (wcert L).length = N + 7 := hwl
  rw [hn7] at hcl hV
  have f0 : w.cell? ⟨m, 0, none⟩ = some (.slice none 0 0) := by rw [cell_of_heap hm]; rfl
  have hw4 : ∀ i (h : i < 7), w.cell? ⟨g, off + i, none⟩ = some (by8 ((wcert L).getD i 0)) := fun i h => by rw [cell_of_heap hg]; exact hcell i (by omega)
  have e7 : wcert L = [UInt8.ofNat 11, UInt8.ofNat ((3 + N) / 65536), UInt8.ofNat ((3 + N) / 256), UInt8.ofNat (3 + N), UInt8.ofNat (N / 65536), UInt8.ofNat (N / 256), UInt8.ofNat N] ++ vecs 3 L := by
    unfold wcert; rw [← hN, en1, en3, en3]; simp
  have g4 := hw4 4 (by omega)
  have g5 := hw4 5 (by omega)
  have g6 := hw4 6 (by omega)
  rw [e7] at g4 g5 g6
  have hor := u32_be3 (UInt8.ofNat (N / 65536)) (UInt8.ofNat (N / 256)) (UInt8.ofNat N)
  rw [← en3, be_en, Nat.mod_eq_of_lt (by omega)] at hor
  simp only [List.cons_append, List.getD_cons_succ, List.getD_cons_zero] at g4 g5 g6
  generalize UInt8.ofNat (N / 65536) = b0 at g4 hor
  generalize UInt8.ofNat (N / 256) = b1 at g5 hor
  generalize UInt8.ofNat N = b2 at g6 hor
  have HOR := Lib.hid hor
  have HM := Lib.hid hm
  have HG := Lib.hid hg
  have hdrop : (wcert L).drop 7 = vecs 3 L := by rw [e7]; rfl
  have hcm' : cap ≤ 9223372036854775807 := hcm
  have HV := Lib.hid hV
  have HN := Lib.hid hN
  have HE := Lib.hid hdrop
  have V1 : Hid (View C g (.slice (some ⟨g, off + 7, none⟩) N (cap - 7)) (vecs 3 L)) := by
    have h := View.drop (db := g) 7 (by omega) (by omega : (wcert L).length ≤ cap) hcm hcell
    rw [hdrop, hn7] at h
    exact h
  have hLb : L.length ≤ 16777209 := by
    have h := vecs_len 3 L
    omega
  have hcap : ¬ 7 = cap := by
    have h := vecs_len 3 L
    omega
  clear hm hg hV hcell hor hw4 e7 hwl hn7 hcm hdrop hN
  go_enter Try.func80, Try.ntmps80
  rw [show (wcert L).length = N + 7 by rw [wcert_length, HN.out]]
  go_wp2_with fail
  go_quiet (fail)
  rw [HOR.out]
  go_wp2_with fail
  go_loopw [5, 6, 7] (fun cl nc d wr => ∃ j : Nat, j ≤ L.length ∧ cl = .int .u32 ((vecs 3 (L.drop j)).length : Nat) ∧ nc = .int .i64 j ∧ View C g d (vecs 3 (L.drop j)) ∧ wr.os = w.os ∧ wr.tape = w.tape ∧ wr.output = w.output ∧ wr.heap = w.heap) (fun _ nc _ _ => L.length - (intOf nc).toNat)
  case atStart => exact ⟨0, by omega, by rw [List.drop_zero, ← HN.out], rfl, by rw [List.drop_zero]; exact V1.out, rfl, rfl, rfl, rfl⟩
  case round =>
    obtain ⟨j, hj, rfl, rfl, hVd, ho1, ho2, ho3, hh⟩ := hrel
    have HH := Lib.hid hh
    have HO1 := Lib.hid (And.intro ho1 (And.intro ho2 ho3))
    clear ho1 ho2 ho3
    by_cases hjn : j < L.length
    · have hD := vecs_drop hjn
      have hs0 : 0 < L[j].length := List.length_pos_iff.2 (hne _ (List.getElem_mem hjn))
      obtain ⟨D, hDd⟩ : ∃ D, D = vecs 3 (L.drop j) := ⟨_, rfl⟩
      obtain ⟨n, hnD⟩ : ∃ n, n = D.length := ⟨_, rfl⟩
      obtain ⟨len, hlen⟩ : ∃ n, n = L[j].length := ⟨_, rfl⟩
      obtain ⟨n', hn'⟩ : ∃ n, n = (vecs 3 (L.drop (j + 1))).length := ⟨_, rfl⟩
      have hsum : n = 3 + len + n' := by rw [hnD, hDd, hD, hlen, hn']; simp [en_length]; omega
      have hnN : n ≤ 16777209 := by
        have h := vecs_take_drop L j
        rw [← HN.out, ← hDd, ← hnD] at h
        omega
      rw [← hDd] at hVd hD ⊢
      rw [← hnD]
      obtain ⟨offd, capd, rfl, hcl', hcm', hcc⟩ := id hVd
      rw [← hnD] at hVd hcl' ⊢
      obtain ⟨c0, c1, c2, k0, k1, k2, hbe⟩ := view_head3 hVd (by rw [hD, List.append_assoc]) (by omega : L[j].length < 16777216)
      have g0 : wr.cell? ⟨g, offd, none⟩ = some (by8 c0) := by rw [← k0]; exact cell_of_heap (hh ▸ HG.out)
      have g1 : wr.cell? ⟨g, offd + 1, none⟩ = some (by8 c1) := by rw [← k1]; exact cell_of_heap (hh ▸ HG.out)
      have g2 : wr.cell? ⟨g, offd + 2, none⟩ = some (by8 c2) := by rw [← k2]; exact cell_of_heap (hh ▸ HG.out)
      have hor := u32_be3 c0 c1 c2
      rw [hbe, ← hlen] at hor
      have HOR1 := Lib.hid hor
      have hcm2 : capd ≤ 9223372036854775807 := hcm'
      have hs1 : 0 < len := by omega
      have HV1 := Lib.hid hVd
      have HDN := Lib.hid hnD
      have HDD := Lib.hid hD
      have HLEN := Lib.hid hlen
      have HN' := Lib.hid hn'
      have V3 : Hid (View C g (.slice (some ⟨g, offd + (3 + len), none⟩) n' (capd - (3 + len))) (vecs 3 (L.drop (j + 1)))) := by
        have h := View.drop (db := g) (3 + len) (by omega) (by omega : D.length ≤ capd) hcm' hcc
        rw [← hnD, show n - (3 + len) = n' by omega, hD, List.drop_left' (by simp [en_length, hlen])] at h
        exact h
      have V4 : Hid (3 + len = capd → View C g (.slice (some ⟨g, offd, none⟩) 0 0) (vecs 3 (L.drop (j + 1)))) := fun h7 => by
        have h := View.dropAll (C := C) (db := g) (off := offd) (bs := D) (3 + len) (by omega)
        rw [hD, List.drop_left' (by simp [en_length, hlen])] at h
        exact h
      clear hVd hD hDd hnD hlen hn' hcm' hcc k0 k1 k2 hbe hor hs0 hh
      go_wp2_with fail
      go_quiet (fail)
      rw [HOR1.out]
      by_cases hce : 3 + len = capd
      · go_wp2_with fail
        refine ⟨⟨j + 1, by omega, by rw [← HN'.out]; congr 1; omega, by simp, ?_, HO1.out.1, HO1.out.2.1, HO1.out.2.2, HH.out⟩, by simp [intOf]; omega⟩
        rw [show capd + n' - (3 + len) = 0 by omega, show capd - (3 + len) = 0 by omega]
        exact V4.out hce
      · go_wp2_with fail
        refine ⟨⟨j + 1, by omega, by rw [← HN'.out]; congr 1; omega, by simp, ?_, HO1.out.1, HO1.out.2.1, HO1.out.2.2, HH.out⟩, by simp [intOf]; omega⟩
        rw [show 3 + len + n' - (3 + len) = n' by omega]
        exact V3.out
    · have hjn' : j = L.length := by omega
      subst hjn'
      rw [show vecs 3 (L.drop L.length) = [] by simp [vecs], List.length_nil]
      have hsz : wr.heap.size = w.heap.size := by rw [hh]
      have hmk := make_rows wr L.length (by omega)
      rw [hsz] at hmk
      have hml := lt_of_heap HM.out
      have hgl := lt_of_heap HG.out
      have m0 : wr.cell? ⟨m, 0, none⟩ = some (.slice none 0 0) := by rw [cell_of_heap (hh ▸ HM.out)]; rfl
      have mfz : wr.frozen? ⟨m, 0, none⟩ = false := frozen_of_heap (hh ▸ HM.out)
      obtain ⟨off1, cap1, rfl, _⟩ := hVd.slice
      obtain ⟨Z, hZ⟩ : ∃ Z, Z = List.replicate L.length (Value.slice none 0 0) := ⟨_, rfl⟩
      rw [← hZ] at hmk
      have HZ := Lib.hid hZ
      clear hh hVd hZ
      go_wp2_with fail
      go_loopw [9, 7] (fun i d wl => ∃ (j : Nat) (us : List Value), j ≤ L.length ∧ i = .int .i64 j ∧ View C g d (vecs 3 (L.drop j)) ∧ us.length = j ∧ (∀ r (hr : r < L.length), r < j → ∃ u, us[r]? = some u ∧ View C g u L[r]) ∧
          wl.heap[w.heap.size]? = some (.cells (us ++ List.replicate (L.length - j) (Value.slice none 0 0)).toArray 22 (0, 0)) ∧
          wl.heap[m]? = some (.cells #[.slice (some ⟨w.heap.size, 0, none⟩) L.length L.length] 122 (0, 0)) ∧ Fm m w wl) (fun i _ _ => L.length - (intOf i).toNat)
      case atStart =>
        refine ⟨0, [], by omega, rfl, by rw [List.drop_zero]; exact V1.out, rfl, fun r hr h => by omega, ?_, ?_, ?_⟩
        · have h := heap_alloc_new (wr.setCell ⟨m, 0, none⟩ (Value.slice (some ⟨w.heap.size, 0, none⟩) L.length L.length)) (.cells Z.toArray 22)
          rw [show (wr.setCell ⟨m, 0, none⟩ (Value.slice (some ⟨w.heap.size, 0, none⟩) L.length L.length)).heap.size = w.heap.size by simp [World.setCell]; exact hsz] at h
          rw [h, HZ.out]
          rfl
        · rw [Below.heap_alloc _ _ _ (by simp [World.setCell]; omega)]
          exact (heap_set_same (HH.out ▸ HM.out)).trans rfl
        · refine ⟨HO1.out.1, HO1.out.2.1, HO1.out.2.2, by simp [World.setCell]; omega, fun k hk hkm => ?_⟩
          rw [Below.heap_alloc _ _ _ (by simp [World.setCell]; omega), Below.heap_setCell _ _ _ _ hkm, HH.out]
      case round =>
        obtain ⟨j, us, hj, rfl, hVd, hus, hall, hhh, hhm, hF⟩ := hrel
        have HF := Lib.hid hF
        have HHH := Lib.hid hhh
        have HHM := Lib.hid hhm
        have HALL := Lib.hid hall
        have hwg : wr.heap[g]? = some (.cells C T fr) := (hF.keep g hgl hgm).trans HG.out
        by_cases hjn : j < L.length
        · have hD := vecs_drop hjn
          have hs0 : 0 < L[j].length := List.length_pos_iff.2 (hne _ (List.getElem_mem hjn))
          obtain ⟨D, hDd⟩ : ∃ D, D = vecs 3 (L.drop j) := ⟨_, rfl⟩
          obtain ⟨n, hnD⟩ : ∃ n, n = D.length := ⟨_, rfl⟩
          obtain ⟨len, hlen⟩ : ∃ n, n = L[j].length := ⟨_, rfl⟩
          obtain ⟨n', hn'⟩ : ∃ n, n = (vecs 3 (L.drop (j + 1))).length := ⟨_, rfl⟩
          have hsum : n = 3 + len + n' := by rw [hnD, hDd, hD, hlen, hn']; simp [en_length]; omega
          have hnN : n ≤ 16777209 := by
            have h := vecs_take_drop L j
            rw [← HN.out, ← hDd, ← hnD] at h
            omega
          rw [← hDd] at hVd hD
          obtain ⟨offd, capd, rfl, hcl', hcm', hcc⟩ := id hVd
          rw [← hnD] at hVd hcl' ⊢
          obtain ⟨c0, c1, c2, k0, k1, k2, hbe⟩ := view_head3 hVd (by rw [hD, List.append_assoc]) (by omega : L[j].length < 16777216)
          have g0 : wr.cell? ⟨g, offd, none⟩ = some (by8 c0) := by rw [← k0]; exact cell_of_heap hwg
          have g1 : wr.cell? ⟨g, offd + 1, none⟩ = some (by8 c1) := by rw [← k1]; exact cell_of_heap hwg
          have g2 : wr.cell? ⟨g, offd + 2, none⟩ = some (by8 c2) := by rw [← k2]; exact cell_of_heap hwg
          have hor := u32_be3 c0 c1 c2
          rw [hbe, ← hlen] at hor
          have HOR1 := Lib.hid hor
          have hcm2 : capd ≤ 9223372036854775807 := hcm'
          have hs1 : 0 < len := by omega
          have HN' := Lib.hid hn'
          have V3 : Hid (View C g (.slice (some ⟨g, offd + (3 + len), none⟩) n' (capd - (3 + len))) (vecs 3 (L.drop (j + 1)))) := by
            have h := View.drop (db := g) (3 + len) (by omega) (by omega : D.length ≤ capd) hcm' hcc
            rw [← hnD, show n - (3 + len) = n' by omega, hD, List.drop_left' (by simp [en_length, hlen])] at h
            exact h
          have V4 : Hid (3 + len = capd → View C g (.slice (some ⟨g, offd, none⟩) 0 0) (vecs 3 (L.drop (j + 1)))) := fun h7 => by
            have h := View.dropAll (C := C) (db := g) (off := offd) (bs := D) (3 + len) (by omega)
            rw [hD, List.drop_left' (by simp [en_length, hlen])] at h
            exact h
          have V5 : Hid (View C g (.slice (some ⟨g, offd + 3, none⟩) len (capd - 3)) L[j]) := by
            refine ⟨offd + 3, capd - 3, by rw [hlen], by omega, by unfold maxLen at hcm' ⊢; omega, fun i hi => ?_⟩
            have h := hcc (3 + i) (by omega)
            rw [Nat.add_assoc, h, hD, List.append_assoc, List.getD_eq_getElem?_getD, List.getElem?_append_right (by rw [en_length]; omega), en_length, Nat.add_sub_cancel_left, List.getElem?_append_left hi, ← List.getD_eq_getElem?_getD]
          obtain ⟨Q, hQ⟩ : ∃ Q, Q = List.replicate (L.length - (j + 1)) (Value.slice none 0 0) := ⟨_, rfl⟩
          have hh2 := hhh
          rw [show L.length - j = L.length - (j + 1) + 1 by omega, List.replicate_succ, ← hQ] at hh2
          have HH2 := Lib.hid hh2
          have HQ := Lib.hid hQ
          have q0 : wr.cell? ⟨w.heap.size, j, none⟩ = some (.slice none 0 0) := by rw [cell_of_heap hh2, ← hus]; simp
          have qz : wr.frozen? ⟨w.heap.size, j, none⟩ = false := frozen_of_heap hh2
          have qm : wr.cell? ⟨m, 0, none⟩ = some (.slice (some ⟨w.heap.size, 0, none⟩) L.length L.length) := by rw [cell_of_heap hhm]; rfl
          have HUS := Lib.hid hus
          have hnil : ¬ 3 = capd := by omega
          have hnil2 : ¬ capd = 3 := by omega
          have hw3 : IntKind.u32.wrap (3 + (len : Int)) = 3 + (len : Int) := by simp [IntKind.wrap, IntKind.signed, IntKind.bits]; omega
          have hmx : max (3 + (len : Int)) 0 = 3 + (len : Int) := by omega
          have hb1 : (3 : Int) ≤ 3 + (len : Int) := by omega
          have hb2 : 3 + (len : Int) ≤ (capd : Int) := by omega
          have hb3 : 3 + len - 3 = len := by omega
          have hb4 : (3 + (len : Int)).toNat = 3 + len := by omega
          have hb5 : (3 + (len : Int)) % 4294967296 = 3 + (len : Int) := by omega
          clear hVd hD hDd hnD hlen hn' hcm' hcc k0 k1 k2 hbe hor hs0 hhh hhm hall hwg hF hh2 hQ hus
          go_wp2_with fail
          go_quiet (fail)
          rw [HOR1.out]
          go_wp2_with fail
          refine region_ord [(0, true), (1, true), (2, true), (3, true), (4, true), (5, true), (6, true), (7, true), (8, true), (9, true), (10, false)] (fun w' => w'.cell? ⟨m, 0, none⟩ = some (.slice (some ⟨w.heap.size, 0, none⟩) L.length L.length)) mixed (by kernel_rfl) (by kernel_rfl) rfl (by intro c a d v w h; cases d <;> exact h) qm ?_
          iterate 10 (apply wpOrd_pure rfl rfl; apply Exists.intro; refine ⟨fun w' hS => ?_, ?_⟩; (· (first | (go_simp; done) | (go_simp; with_reducible rfl))); simp only [List.getElem_toArray, List.getElem_cons_succ, List.getElem_cons_zero, Act.put, List.setIfInBounds_toArray, List.set_cons_zero, List.set_cons_succ])
          refine wpOrd_last rfl rfl (by kernel_rfl) (fun K hK => ?_)
          simp only [List.getElem_toArray, List.getElem_cons_succ, List.getElem_cons_zero]
          go_simp
          refine hK _ _ ?_
          refine wpOrd_nil ?_
          clear hK K
          by_cases hce : 3 + len = capd
          · go_wp2_with fail
            refine ⟨?_, ?measure⟩
            (repeat apply Exists.intro)
            refine ⟨?rel, rfl⟩
            case rel =>
              refine ⟨j + 1, us ++ [.slice (some ⟨g, offd + 3, none⟩) len (capd - 3)], by omega, by simp, by have h := V4.out hce; rwa [show n' = 0 by omega], by simp [HUS.out], fun r hr h => ?_, ?_, ?_, ?_⟩
              · by_cases e : r = j
                · subst e
                  exact ⟨_, by rw [List.getElem?_append_right (by rw [HUS.out]; omega), HUS.out, Nat.sub_self]; rfl, V5.out⟩
                · obtain ⟨u, hu, hv⟩ := HALL.out r hr (by omega)
                  exact ⟨u, by rw [List.getElem?_append_left (by rw [HUS.out]; omega)]; exact hu, hv⟩
              · have h := heap_set1 (x := Value.slice (some ⟨g, offd + 3, none⟩) len (capd - 3)) HH2.out HUS.out
                rw [HQ.out] at h
                exact h
              · exact (Below.heap_setCell _ _ _ _ (by show m ≠ w.heap.size; omega)).trans HHM.out
              · refine ⟨HF.out.os, HF.out.tape, HF.out.output, by have h := HF.out.size; simpa [World.setCell] using h, fun k hk hkm => ?_⟩
                exact (Below.heap_setCell _ _ _ _ (by show k ≠ w.heap.size; omega)).trans (HF.out.keep k hk hkm)
            case measure => simp [intOf]; omega
          · go_wp2_with fail
            refine ⟨?_, ?measure⟩
            (repeat apply Exists.intro)
            refine ⟨?rel, rfl⟩
            case rel =>
              refine ⟨j + 1, us ++ [.slice (some ⟨g, offd + 3, none⟩) len (capd - 3)], by omega, by simp, V3.out, by simp [HUS.out], fun r hr h => ?_, ?_, ?_, ?_⟩
              · by_cases e : r = j
                · subst e
                  exact ⟨_, by rw [List.getElem?_append_right (by rw [HUS.out]; omega), HUS.out, Nat.sub_self]; rfl, V5.out⟩
                · obtain ⟨u, hu, hv⟩ := HALL.out r hr (by omega)
                  exact ⟨u, by rw [List.getElem?_append_left (by rw [HUS.out]; omega)]; exact hu, hv⟩
              · have h := heap_set1 (x := Value.slice (some ⟨g, offd + 3, none⟩) len (capd - 3)) HH2.out HUS.out
                rw [HQ.out] at h
                exact h
              · exact (Below.heap_setCell _ _ _ _ (by show m ≠ w.heap.size; omega)).trans HHM.out
              · refine ⟨HF.out.os, HF.out.tape, HF.out.output, by have h := HF.out.size; simpa [World.setCell] using h, fun k hk hkm => ?_⟩
                exact (Below.heap_setCell _ _ _ _ (by show k ≠ w.heap.size; omega)).trans (HF.out.keep k hk hkm)
            case measure => simp [intOf]; omega
        · have hjn' : j = L.length := by omega
          subst hjn'
          obtain ⟨off2, cap2, rfl, _⟩ := hVd.slice
          have hhh2 := hhh
          rw [Nat.sub_self, List.replicate_zero, List.append_nil] at hhh2
          have H2 := Lib.hid hhh2
          clear hhh hhm hall hwg hF hhh2 hVd
          go_wp2_with fail
          go_ret
          refine ⟨us.toArray, w.heap.size, rfl, HHM.out, H2.out, Nat.le_refl _, fun r s hr => ?_, HF.out⟩
          have hrl := (List.getElem?_eq_some_iff.1 hr).1
          obtain ⟨u, hu, hv⟩ := HALL.out r hrl hrl
          have hs := (List.getElem?_eq_some_iff.1 hr).2
          exact ⟨u, by simpa using hu, hs ▸ hv⟩

end Go.Proofs.Ytopcljikkdlffaa
