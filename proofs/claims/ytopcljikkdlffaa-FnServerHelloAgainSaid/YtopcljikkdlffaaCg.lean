/- A Certificate up to TLS 1.2 is made. No statement of the seat is proved here. -/
import Derived.Test.YtopcljikkdlffaaCf
namespace Go.Proofs.Ytopcljikkdlffaa
open Go.RowKit

/-- The lengths together. -/
def lens (L : List (List UInt8)) : Nat := (L.map List.length).sum

theorem lens_take_succ {L : List (List UInt8)} {j : Nat} (h : j < L.length) : lens (L.take (j + 1)) = lens (L.take j) + L[j].length := by
  rw [take_snoc h]; unfold lens; rw [List.map_append, List.sum_append_nat]; simp

theorem vecs_len (k : Nat) (L : List (List UInt8)) : (vecs k L).length = k * L.length + lens L := by
  induction L with
  | nil => simp [vecs, lens]
  | cons s L ih =>
    have e : (vecs k (s :: L)).length = k + s.length + (vecs k L).length := by unfold vecs; rw [List.flatMap_cons, List.length_append, List.length_append, en_length]
    have e2 : lens (s :: L) = s.length + lens L := by simp [lens]
    rw [e, ih, e2, List.length_cons, Nat.mul_add]
    omega

theorem lens_take_le (L : List (List UInt8)) (j : Nat) : lens (L.take j) ≤ lens L := by
  have h : lens L = lens (L.take j) + lens (L.drop j) := by
    unfold lens
    rw [← List.sum_append_nat, ← List.map_append, List.take_append_drop]
  omega

theorem heap_set3 {w : World} {g o : Nat} {P R : List Value} {a0 a1 a2 x0 x1 x2 : Value} {T : TypeId} {fr : Nat × Nat} (h : w.heap[g]? = some (.cells (P ++ a0 :: a1 :: a2 :: R).toArray T fr)) (hP : P.length = o) :
    (((w.setCell ⟨g, o, none⟩ x0).setCell ⟨g, o + 1, none⟩ x1).setCell ⟨g, o + 2, none⟩ x2).heap[g]? = some (.cells (P ++ x0 :: x1 :: x2 :: R).toArray T fr) := by
  subst hP
  rw [heap_set_same (heap_set_same (heap_set_same h))]
  simp [List.set_append_right]

theorem infoSize8 : (Try.prog.info? 5).map (·.size) = some 1 := by kernel_rfl

theorem splice_row {P cs : List Value} {x0 x1 x2 z : Value} {o M : Nat} (hP : P.length = o) (_hc : cs.length ≤ M) :
    splice (P ++ x0 :: x1 :: x2 :: List.replicate M z) (o + 3) cs = P ++ [x0, x1, x2] ++ cs ++ List.replicate (M - cs.length) z := by
  subst hP
  have e : P ++ x0 :: x1 :: x2 :: List.replicate M z = (P ++ [x0, x1, x2]) ++ List.replicate M z := by simp
  have hl : (P ++ [x0, x1, x2]).length = P.length + 3 := by simp
  unfold splice
  rw [e, ← hl, List.take_left', List.drop_append]
  · simp
  · rfl

/-- The first seven bytes. -/
def chead (N : Nat) : List UInt8 := en 1 11 ++ en 3 (3 + N) ++ en 3 N

set_option maxRecDepth 100000 in
set_option maxHeartbeats 1000000 in
theorem cert_marshal_nil {m : Nat} {ad : Option Addr} {cap : Nat} (w : World) (hm : w.heap[m]? = some (.cells #[.slice ad 0 cap] 122 (0, 0))) :
    Calls Try.prog 79 #[.pointer (some ⟨m, 0, none⟩)] w fun e w' => ∃ v, e = .returned (.tuple #[v, .nilIface]) ∧
      w'.ownsRow w.heap.size 5 1 v 7 ((wcert []).map by8) ∧ Below w.heap.size w w' := by
  have f0 : w.cell? ⟨m, 0, none⟩ = some (.slice ad 0 cap) := by rw [cell_of_heap hm]; rfl
  have hml := lt_of_heap hm
  have hmk : (Instr.makeSlice 22 (.int .i64 7) (.int .i64 7)).run Try.prog w = .ok (.slice (some ⟨w.heap.size, 0, none⟩) 7 7) (w.alloc (.cells #[.int .u8 0, .int .u8 0, .int .u8 0, .int .u8 0, .int .u8 0, .int .u8 0, .int .u8 0] 5)) := make_row w 7 (by omega)
  clear hm
  go_enter Try.func79, Try.ntmps79
  go_wp2_with fail
  go_loop [4, 18] (fun t i => i = .int .i64 0 ∧ t = .int .i64 0) (fun _ _ => 0)
  case atStart => exact ⟨rfl, rfl⟩
  case round =>
    obtain ⟨rfl, rfl⟩ := hrel
    go_wp2_with fail
    go_loop [10, 78] (fun _ i => i = .int .i64 0) (fun _ _ => 0)
    case atStart => rfl
    case round =>
      obtain rfl := hrel
      go_wp2_with fail
      go_ret2
      exact ⟨_, rfl, ⟨rfl, .inr ⟨w.heap.size, 7, _, rfl, Nat.le_refl _, heap_alloc_new _ _, Nat.le_refl _, by unfold maxLen; omega, rfl, rfl⟩⟩, (Below.refl _ w).alloc (Nat.le_refl _) _⟩

theorem chead_cells (n S N : Nat) (h : N = 3 * n + S) (hN : N + 7 ≤ 16777216) :
    (Value.int IntKind.u8 11 :: Value.int IntKind.u8 ((3 + 3 * (n : Int) + S) / 65536 % 256) :: Value.int IntKind.u8 ((3 + 3 * (n : Int) + S) / 256 % 256) :: Value.int IntKind.u8 ((3 + 3 * (n : Int) + S) % 256) ::
      Value.int IntKind.u8 ((3 + 3 * (n : Int) + S - 3) / 65536) :: Value.int IntKind.u8 ((3 + 3 * (n : Int) + S - 3) / 256 % 256) :: Value.int IntKind.u8 ((3 + 3 * (n : Int) + S - 3) % 256) :: ([] : List Value)) = (chead N).map by8 := by
  unfold chead
  rw [en1, en3, en3]
  have e1 : by8 (UInt8.ofNat 11) = .int .u8 11 := rfl
  have e2 : by8 (UInt8.ofNat ((3 + N) / 65536)) = .int .u8 ((3 + 3 * (n : Int) + S) / 65536 % 256) := by8_int (by omega)
  have e3 : by8 (UInt8.ofNat ((3 + N) / 256)) = .int .u8 ((3 + 3 * (n : Int) + S) / 256 % 256) := by8_int (by omega)
  have e4 : by8 (UInt8.ofNat (3 + N)) = .int .u8 ((3 + 3 * (n : Int) + S) % 256) := by8_int (by omega)
  have e5 : by8 (UInt8.ofNat (N / 65536)) = .int .u8 ((3 + 3 * (n : Int) + S - 3) / 65536) := by8_int (by omega)
  have e6 : by8 (UInt8.ofNat (N / 256)) = .int .u8 ((3 + 3 * (n : Int) + S - 3) / 256 % 256) := by8_int (by omega)
  have e7 : by8 (UInt8.ofNat N) = .int .u8 ((3 + 3 * (n : Int) + S - 3) % 256) := by8_int (by omega)
  simp only [List.map_append, List.map_cons, List.map_nil, e1, e2, e3, e4, e5, e6, e7]
  rfl

set_option maxRecDepth 100000 in
set_option maxHeartbeats 1000000 in
theorem cert_marshal_cons {m : Nat} {L : List (List UInt8)} {v : Value} (w : World) (hm : w.heap[m]? = some (.cells #[v] 122 (0, 0))) (hL : LstB w w.heap.size v L) (hne : ∀ s ∈ L, s ≠ []) (hT : (vecs 3 L).length + 7 ≤ 16777216) (hL0 : 0 < L.length) :
    Calls Try.prog 79 #[.pointer (some ⟨m, 0, none⟩)] w fun e w' => ∃ v, e = .returned (.tuple #[v, .nilIface]) ∧
      w'.ownsRow w.heap.size 5 1 v ((vecs 3 L).length + 7) ((wcert L).map by8) ∧ Below w.heap.size w w' := by
  obtain ⟨ad, cap, rfl, hx⟩ := hL.len
  have f0 : w.cell? ⟨m, 0, none⟩ = some (.slice ad L.length cap) := by rw [cell_of_heap hm]; rfl
  have hvl := vecs_len 3 L
  have HL := Lib.hid hL
  have hml := lt_of_heap hm
  clear hL hm
  go_enter Try.func79, Try.ntmps79
  go_wp2_with fail
  go_loop [4, 18] (fun t i => ∃ j : Nat, j ≤ L.length ∧ i = .int .i64 j ∧ t = .int .i64 (lens (L.take j) : Nat)) (fun _ i => L.length - (intOf i).toNat)
  case atStart => exact ⟨0, by omega, rfl, rfl⟩
  case round =>
    obtain ⟨j, hj, rfl, rfl⟩ := hrel
    by_cases hjn : j < L.length
    · obtain ⟨x, rfl⟩ := hx (by omega)
      obtain ⟨u, hu, hsrc⟩ := HL.out.at hjn
      obtain ⟨ad1, cap1, rfl⟩ := hsrc.len
      clear hsrc
      have h1 := lens_take_succ hjn
      have h2 := lens_take_le L (j + 1)
      have h3 := lens_take_le L j
      have H1 := Lib.hid h1
      clear h1
      have hw : wrap64 ((lens (L.take j) : Int) + (L[j].length : Int)) = ((lens (L.take (j + 1)) : Nat) : Int) := by
        rw [IntWalk.wrap64_in _ ⟨by omega, by have := H1.out; omega⟩, H1.out]; omega
      have HWR := Lib.hid hw
      clear hw
      go_wp2_with fail
      exact ⟨⟨j + 1, by omega, by simp, by rw [HWR.out]⟩, by simp [intOf]; omega⟩
    · have hjn' : j = L.length := by omega
      subst hjn'
      rw [List.take_length]
      obtain ⟨N, hN⟩ : ∃ N, N = (vecs 3 L).length := ⟨_, rfl⟩
      rw [← hN] at hT hvl
      have hN0 : N ≠ 0 := by omega
      obtain ⟨R, hR⟩ : ∃ R, R = List.replicate N (Value.int .u8 0) := ⟨_, rfl⟩
      have hmk := make_row w (N + 7) (by omega)
      rw [show List.replicate (N + 7) (Value.int .u8 0) = .int .u8 0 :: .int .u8 0 :: .int .u8 0 :: .int .u8 0 :: .int .u8 0 :: .int .u8 0 :: .int .u8 0 :: R by rw [hR]; rfl, show ((N + 7 : Nat) : Int) = 4 + (3 + 3 * (L.length : Int) + (lens L : Int)) by omega] at hmk
      have HR := Lib.hid hR
      have HNN := Lib.hid hN
      have HVL := Lib.hid hvl
      have hb1 : 3 + 3 * (L.length : Int) + (lens L : Int) ≤ 16777216 := by omega
      have hb0 : 0 ≤ (lens L : Int) := by omega
      have HCH := Lib.hid (chead_cells L.length (lens L) N hvl hT)
      clear hR hN hvl
      go_wp2_with fail
      go_loopw [10, 78] (fun y i wr => ∃ (j M o : Nat), j ≤ L.length ∧ i = .int .i64 j ∧ y = .slice (some ⟨w.heap.size, o, none⟩) M M ∧ M + (vecs 3 (L.take j)).length = N ∧ (0 < M → o = 7 + (vecs 3 (L.take j)).length) ∧
          wr.heap[w.heap.size]? = some (.cells ((chead N ++ vecs 3 (L.take j)).map by8 ++ List.replicate M (Value.int .u8 0)).toArray 5 (0, 0)) ∧ Below w.heap.size w wr) (fun _ i _ => L.length - (intOf i).toNat)
      case atStart =>
        refine ⟨0, N, 7, by omega, rfl, rfl, by simp [vecs], fun _ => by simp [vecs], ?_, (Below.refl _ w).alloc (Nat.le_refl _) _⟩
        rw [heap_alloc_new]
        have e : vecs 3 (L.take 0) = [] := by simp [vecs]
        rw [e, List.append_nil, ← HCH.out, ← HR.out]
        rfl
      case round =>
        obtain ⟨j, M, o, hj, rfl, rfl, hM, ho, hg, hB⟩ := hrel
        have HB := Lib.hid hB
        have HG := Lib.hid hg
        have HO := Lib.hid ho
        have HMM := Lib.hid hM
        clear hB hg ho hM
        by_cases hjn : j < L.length
        · obtain ⟨x, rfl⟩ := hx (by omega)
          obtain ⟨u, hu, hsrc⟩ := (HL.out.keep (Nat.le_refl _) HB.out.block).at hjn
          have hc1 := hne _ (List.getElem_mem hjn)
          have hnx : (vecs 3 (L.take (j + 1))).length = (vecs 3 (L.take j)).length + 3 + L[j].length := by rw [take_snoc hjn, vecs_snoc]; simp [en_length]; omega
          have hle := vecs_le (k := 3) L (j + 1)
          obtain ⟨len, hlen⟩ : ∃ n, n = L[j].length := ⟨_, rfl⟩
          obtain ⟨adj, capj, rfl⟩ := hsrc.len
          have hl0 : 0 < len := by rw [hlen]; exact List.length_pos_iff.2 hc1
          rw [← hlen] at hnx hu
          have hM3 : 3 + len ≤ M := by have := HMM.out; have := HNN.out; omega
          have ho7 := HO.out (by omega)
          obtain ⟨M3, rfl⟩ : ∃ M3, M = M3 + 3 := ⟨M - 3, by omega⟩
          obtain ⟨P, hP⟩ : ∃ P, P = (chead N ++ vecs 3 (L.take j)).map by8 := ⟨_, rfl⟩
          have hPl : P.length = o := by rw [hP, List.length_map, List.length_append, ho7]; simp [chead, en_length]
          obtain ⟨R3, hR3⟩ : ∃ R3, R3 = List.replicate M3 (Value.int .u8 0) := ⟨_, rfl⟩
          have hR3l : R3.length = M3 := by rw [hR3]; simp
          have hg := HG.out
          rw [show List.replicate (M3 + 3) (Value.int .u8 0) = .int .u8 0 :: .int .u8 0 :: .int .u8 0 :: List.replicate M3 (Value.int .u8 0) from rfl, ← hP, ← hR3] at hg
          have c0 : wr.cell? ⟨w.heap.size, o, none⟩ = some (.int .u8 0) := by rw [cell_of_heap hg, ← hPl]; simp
          have c1 : wr.cell? ⟨w.heap.size, o + 1, none⟩ = some (.int .u8 0) := by rw [cell_of_heap hg, List.getElem?_toArray, List.getElem?_append_right (by omega), show o + 1 - P.length = 1 by omega]; rfl
          have c2 : wr.cell? ⟨w.heap.size, o + 2, none⟩ = some (.int .u8 0) := by rw [cell_of_heap hg, List.getElem?_toArray, List.getElem?_append_right (by omega), show o + 2 - P.length = 2 by omega]; rfl
          have hfz : ∀ k, wr.frozen? ⟨w.heap.size, k, none⟩ = false := fun k => frozen_of_heap hg
          have HG4 : Hid (∀ x0 x1 x2, (((wr.setCell ⟨w.heap.size, o, none⟩ x0).setCell ⟨w.heap.size, o + 1, none⟩ x1).setCell ⟨w.heap.size, o + 2, none⟩ x2).heap[w.heap.size]? = some (.cells (P ++ x0 :: x1 :: x2 :: R3).toArray 5 (0, 0))) := fun x0 x1 x2 => heap_set3 hg hPl
          have HP := Lib.hid hP
          have HR3 := Lib.hid hR3
          have HR3L := Lib.hid hR3l
          clear hP hR3 hR3l
          have HLEN := Lib.hid hlen
          have HSRC := Lib.hid hsrc
          have HNX := Lib.hid hnx
          have HPL := Lib.hid hPl
          have HLE := Lib.hid hle
          have hlb : (len : Int) ≤ 16777209 := by have := HNN.out; omega
          obtain ⟨a', ha', rfl⟩ : ∃ a', a'.block < w.heap.size ∧ adj = some a' := by
            rcases hsrc with ⟨e, h⟩ | ⟨a', c', e, hlt, _⟩
            · exact (hc1 h).elim
            · simp only [Value.slice.injEq] at e
              exact ⟨a', hlt hc1, e.1⟩
          obtain ⟨CS, hCS⟩ : ∃ CS, CS = L[j].map by8 := ⟨_, rfl⟩
          have hnews : Hid (∀ x0 x1 x2 i v, CS[i]? = some v → (((wr.setCell ⟨w.heap.size, o, none⟩ x0).setCell ⟨w.heap.size, o + 1, none⟩ x1).setCell ⟨w.heap.size, o + 2, none⟩ x2).cell? (a'.add i) = some v) := by
            intro x0 x1 x2 i v hi
            rw [hCS] at hi
            have h := hsrc.below ((((Below.refl w.heap.size wr).setCell (p := ⟨w.heap.size, o, none⟩) (Nat.le_refl _) x0).setCell (p := ⟨w.heap.size, o + 1, none⟩) (Nat.le_refl _) x1).setCell (p := ⟨w.heap.size, o + 2, none⟩) (Nat.le_refl _) x2)
            rcases h with ⟨e, _⟩ | ⟨ad2, c2, e, _, hc⟩
            · cases e
            · simp only [Value.slice.injEq, Option.some.injEq] at e
              obtain ⟨rfl, _, _⟩ := e
              exact hc i v hi
          have hCl : CS.length = len := by rw [hCS, List.length_map]; exact hlen.symm
          have HCL := Lib.hid hCl
          have HCS := Lib.hid hCS
          have hone : Hid (∀ v ∈ CS, v.oneCell' = true) := by
            intro v hv
            rw [hCS] at hv
            obtain ⟨b, _, rfl⟩ := List.mem_map.1 hv
            rfl
          have hM33 : len ≤ M3 := by omega
          obtain ⟨F, hF, hF2⟩ : ∃ F : Value → Value → Value → World, (∀ x0 x1 x2, (Builtin.copy_ #[22, 22] 3 #[Value.slice (some ⟨w.heap.size, o + 3, none⟩) M3 M3, Value.slice (some a') len capj]).run Try.prog (((wr.setCell ⟨w.heap.size, o, none⟩ x0).setCell ⟨w.heap.size, o + 1, none⟩ x1).setCell ⟨w.heap.size, o + 2, none⟩ x2) = .ok (.int .i64 len) (F x0 x1 x2)) ∧
              Hid (∀ x0 x1 x2, (F x0 x1 x2).heap[w.heap.size]? = some (.cells (P ++ [x0, x1, x2] ++ CS ++ List.replicate (M3 - len) (Value.int .u8 0)).toArray 5 (0, 0)) ∧ Below w.heap.size w (F x0 x1 x2)) := by
            refine ⟨fun x0 x1 x2 => (((wr.setCell ⟨w.heap.size, o, none⟩ x0).setCell ⟨w.heap.size, o + 1, none⟩ x1).setCell ⟨w.heap.size, o + 2, none⟩ x2).setRow w.heap.size (splice (P ++ x0 :: x1 :: x2 :: R3) (o + 3) CS).toArray, fun x0 x1 x2 => ?_, fun x0 x1 x2 => ⟨?_, ?_⟩⟩
            · have h := run_copy_row (P := Try.prog) (((wr.setCell ⟨w.heap.size, o, none⟩ x0).setCell ⟨w.heap.size, o + 1, none⟩ x1).setCell ⟨w.heap.size, o + 2, none⟩ x2) 22 22 3 5 w.heap.size (o + 3) M3 M3 a' len capj (P ++ x0 :: x1 :: x2 :: R3).toArray 5 CS Try.underlying22 infoSize8 (HG4.out _ _ _) (by rw [hCl]; exact (Nat.min_eq_left hM33).symm) (hnews.out _ _ _) (by have h3 := HR3L.out; simp only [List.size_toArray, List.length_append, List.length_cons]; omega) hone.out
              rw [hCl, List.append_assoc] at h
              refine h.trans ?_
              simp only [splice, hCl]
              rfl
            · have h := setRow_heap _ w.heap.size (P ++ x0 :: x1 :: x2 :: R3).toArray (splice (P ++ x0 :: x1 :: x2 :: R3) (o + 3) CS).toArray _ _ (HG4.out x0 x1 x2)
              refine h.trans ?_
              rw [HR3.out, splice_row hPl (by rw [hCl]; exact hM33), hCl]
            · exact below_setRow (((HB.out.setCell (Nat.le_refl _) _).setCell (Nat.le_refl _) _).setCell (Nat.le_refl _) _) (Nat.le_refl _) _
          have hrow : P ++ [Value.int .u8 ((len : Int) / 65536), Value.int .u8 ((len : Int) / 256 % 256), Value.int .u8 ((len : Int) % 256)] ++ CS = (chead N ++ vecs 3 (L.take (j + 1))).map by8 := by
            have e1 : by8 (UInt8.ofNat (len / 65536)) = .int .u8 ((len : Int) / 65536) := by8_int (by omega)
            have e2 : by8 (UInt8.ofNat (len / 256)) = .int .u8 ((len : Int) / 256 % 256) := by8_int (by omega)
            have e3 : by8 (UInt8.ofNat len) = .int .u8 ((len : Int) % 256) := by8_int (by omega)
            rw [take_snoc hjn, vecs_snoc, ← hlen, en3, HP.out, hCS]
            simp only [List.map_append, List.map_cons, List.map_nil, e1, e2, e3, List.append_assoc]
          have HROW := Lib.hid hrow
          have HO7 := Lib.hid ho7
          clear hg hlen hsrc hnx hPl hle ho7 hc1 hCl hCS hrow
          rcases Nat.eq_or_lt_of_le hM33 with rfl | hend
          · go_wp2_with fail
            have h1 := HNX.out
            have h2 := HMM.out
            have h3 := HO7.out
            have h4 := hF2.out (Value.int .u8 ((len : Int) / 65536)) (Value.int .u8 ((len : Int) / 256 % 256)) (Value.int .u8 ((len : Int) % 256))
            rw [HROW.out] at h4
            refine ⟨⟨j + 1, 0, o, by omega, by simp, by congr 1 <;> omega, by omega, fun h => by omega, ?_, h4.2⟩, by simp [intOf]; omega⟩
            rw [h4.1, Nat.sub_self]
          · go_wp2_with fail
            have h1 := HNX.out
            have h2 := HMM.out
            have h3 := HO7.out
            have h4 := hF2.out (Value.int .u8 ((len : Int) / 65536)) (Value.int .u8 ((len : Int) / 256 % 256)) (Value.int .u8 ((len : Int) % 256))
            rw [HROW.out] at h4
            refine ⟨⟨j + 1, M3 - len, o + (3 + len), by omega, by simp, by congr 1 <;> omega, by omega, fun h => by omega, ?_, h4.2⟩, by simp [intOf]; omega⟩
            rw [h4.1]
        · have hjn' : j = L.length := by omega
          subst hjn'
          have h2 := HMM.out
          have h5 := HNN.out
          rw [List.take_length, ← h5] at h2
          have hg := HG.out
          obtain rfl : M = 0 := by omega
          rw [List.take_length] at hg
          have HG5 := Lib.hid hg
          clear hg h2 h5
          go_wp2_with fail
          go_ret2
          refine ⟨_, rfl, ?_, HB.out⟩
          rw [← HNN.out]
          have e : wcert L = chead N ++ vecs 3 L := by unfold wcert chead; rw [← HNN.out]; simp
          rw [e]
          refine ⟨by rw [List.length_map, List.length_append, ← HNN.out]; simp [chead, en_length]; omega, .inr ⟨w.heap.size, N + 7, _, rfl, Nat.le_refl _, HG5.out, Nat.le_refl _, by unfold maxLen; omega, ?_, ?_⟩⟩
          · simp [chead, en_length, ← HNN.out]; omega
          · simp only [List.replicate_zero, List.append_nil]
            rw [List.take_of_length_le]
            simp [chead, en_length, ← HNN.out]; omega

end Go.Proofs.Ytopcljikkdlffaa
