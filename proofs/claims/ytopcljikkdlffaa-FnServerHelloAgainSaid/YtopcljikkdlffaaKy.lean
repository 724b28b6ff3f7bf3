/- ServerKeyExchange and ClientKeyExchange are read. No statement of the seat is proved here. -/
import Derived.Test.YtopcljikkdlffaaKx
namespace Go.Proofs.Ytopcljikkdlffaa
open Go.RowKit

theorem view_own {w : World} {base n : Nat} {v : Value} {s : List UInt8} (h : w.ownsRow base 5 1 v n (s.map by8)) (hn : s ≠ []) : ∃ C g, View C g v s ∧ w.heap[g]? = some (.cells C 5 (0, 0)) ∧ base ≤ g := by
  have hl : n = s.length := by have := h.1; simp at this; omega
  subst hl
  rcases h.2 with ⟨rfl, h2⟩ | ⟨g, cap, cur, rfl, hg, hh, h1, h2, h3, h4⟩
  · exact (hn (List.length_eq_zero_iff.1 h2)).elim
  · refine ⟨cur, g, ⟨0, cap, rfl, h1, h2, fun i hi => ?_⟩, hh, hg⟩
    have e : (s.map by8)[i]? = some (by8 (s.getD i 0)) := by simp [List.getElem?_map, List.getElem?_eq_getElem hi]
    rw [← h4, Nat.mul_one, List.getElem?_take] at e
    rw [Nat.zero_add, ← Array.getElem?_toList]
    split at e
    · exact e
    · rename_i hni; exact (hni hi).elim

theorem i64_or_nat (a b : Nat) (ha : a < 4294967296) (hb : b < 4294967296) : bits .or .i64 (a : Int) (b : Int) = ((a ||| b : Nat) : Int) := by
  have hx : a ||| b < 2 ^ 32 := Nat.or_lt_two_pow (by omega) (by omega)
  show IntKind.i64.wrap ((BitVec.ofInt 64 (a : Int) ||| BitVec.ofInt 64 (b : Int)).toNat : Int) = _
  rw [BitVec.toNat_or, ofInt_u64 a (by omega), ofInt_u64 b (by omega), IntKind.wrap_i64]
  omega

theorem i64_be3 (b1 b2 b3 : UInt8) : bits BinOp.or IntKind.i64 (bits BinOp.or IntKind.i64 (wrap64 (wrap64 (b1.toNat : Int) * 65536)) (wrap64 (wrap64 (b2.toNat : Int) * 256))) (wrap64 (b3.toNat : Int)) = ((be [b1, b2, b3] : Nat) : Int) := by
  have h1 := b1.toNat_lt
  have h2 := b2.toNat_lt
  have h3 := b3.toNat_lt
  have e1 : wrap64 (wrap64 (b1.toNat : Int) * 65536) = ((b1.toNat * 65536 : Nat) : Int) := by unfold wrap64; omega
  have e2 : wrap64 (wrap64 (b2.toNat : Int) * 256) = ((b2.toNat * 256 : Nat) : Int) := by unfold wrap64; omega
  have e3 : wrap64 (b3.toNat : Int) = ((b3.toNat : Nat) : Int) := by unfold wrap64; omega
  rw [e1, e2, e3, i64_or_nat _ _ (by omega) (by omega), or_mul _ b1.toNat 16 65536 (by decide) (by omega)]
  rw [show b1.toNat * 65536 + b2.toNat * 256 = (b1.toNat * 256 + b2.toNat) * 256 by omega, i64_or_nat _ _ (by omega) (by omega), or_mul _ _ 8 256 (by decide) (by omega)]
  simp [be]

theorem view_src {w : World} {C : Array Value} {g : Nat} {v : Value} {s : List UInt8} {T : TypeId} {fr : Nat × Nat} (h : View C g v s) (hh : w.heap[g]? = some (.cells C T fr)) : SrcB w w.heap.size v s := by
  obtain ⟨off, cap, rfl, h1, h2, h3⟩ := h
  refine .inr ⟨_, _, rfl, fun _ => lt_of_heap hh, fun j u hu => ?_⟩
  have hj : j < s.length := by have := (List.getElem?_eq_some_iff.1 hu).1; simpa using this
  rw [add_plain, cell_of_heap hh, h3 j hj]
  simp [List.getElem?_map, List.getElem?_eq_getElem hj] at hu
  simp [hj, ← hu]

set_option maxRecDepth 100000 in
set_option maxHeartbeats 400000 in
theorem sky_unmarshal {C : Array Value} {m g : Nat} {v : Value} {bs : List UInt8} (w : World) (hm : w.heap[m]? = some (.cells #[.slice none 0 0] 114 (0, 0))) (hV : View C g v bs) (hl : 4 ≤ bs.length) :
    Calls Try.prog 75 #[.pointer (some ⟨m, 0, none⟩), v] w fun e w' => ∃ v', e = .returned (.bool true) ∧ w' = w.setCell ⟨m, 0, none⟩ v' ∧ View C g v' (bs.drop 4) := by
  obtain ⟨off, cap, rfl, hc, hm2, hcell⟩ := hV
  have f0 : w.cell? ⟨m, 0, none⟩ = some (.slice none 0 0) := by rw [cell_of_heap hm]; rfl
  have hfz : w.frozen? ⟨m, 0, none⟩ = false := frozen_of_heap hm
  have V1 := Lib.hid (View.drop (db := g) 4 hl hc hm2 hcell)
  have V2 : Hid (4 = bs.length → View C g (.slice (some ⟨g, off, none⟩) 0 0) (bs.drop 4)) := fun h => View.dropAll 4 h
  have hm' : cap ≤ 9223372036854775807 := hm2
  clear hcell hm hm2
  by_cases h4 : 4 = cap
  · go_enter Try.func75, Try.ntmps75
    go_wp2
    go_ret
    exact ⟨_, rfl, rfl, V2.out (by omega)⟩
  · go_enter Try.func75, Try.ntmps75
    go_wp2
    go_ret
    exact ⟨_, rfl, rfl, V1.out⟩

set_option maxRecDepth 100000 in
set_option maxHeartbeats 400000 in
theorem sky_tls {C : Array Value} {g : Nat} {v : Value} {bs : List UInt8} (w : World) (hV : View C g v bs) (hl : 4 ≤ bs.length) :
    Calls Try.prog 39 #[v] w fun e w' => ∃ v', e = .returned (.tuple #[v', .bool true]) ∧ View C g v' (bs.drop 4) ∧ Below w.heap.size w w' := by
  have HV := Lib.hid hV
  clear hV
  go_enter Try.func39, Try.ntmps39
  go_wp2_with fail
  refine (sky_unmarshal (m := w.heap.size) _ (heap_alloc_new _ _) HV.out hl).mono ?_
  rintro e w1 ⟨v', rfl, rfl, hv⟩
  have HV1 := Lib.hid hv
  obtain ⟨off, cap, rfl, _, _, _⟩ := hv
  go_wp2_with fail
  go_ret2
  exact ⟨_, rfl, by have h := HV1.out; simpa using h, (Below.refl _ w).alloc (Nat.le_refl _) _⟩

set_option maxRecDepth 100000 in
set_option maxHeartbeats 400000 in
theorem sky_impl {C : Array Value} {g : Nat} {v : Value} {bs : List UInt8} (w : World) (hV : View C g v bs) (hl : 4 ≤ bs.length) :
    Calls Try.prog 14 #[v] w fun e w' => ∃ v', e = .returned (.tuple #[v', .bool true]) ∧ View C g v' (bs.drop 4) ∧ Below w.heap.size w w' := by
  have HV := Lib.hid hV
  clear hV
  go_enter Try.func14, Try.ntmps14
  go_wp2_with fail
  refine (sky_tls w HV.out hl).mono ?_
  rintro e w1 ⟨v', rfl, hv, hb⟩
  have HV1 := Lib.hid hv
  have HB := Lib.hid hb
  clear hv hb
  go_wp2_with fail
  go_ret2
  exact ⟨_, rfl, HV1.out, HB.out⟩

set_option maxRecDepth 100000 in
set_option maxHeartbeats 400000 in
theorem cky_unmarshal {C : Array Value} {T : TypeId} {fr : Nat × Nat} {m g : Nat} {v : Value} {bs : List UInt8} (w : World) (hm : w.heap[m]? = some (.cells #[.slice none 0 0] 118 (0, 0))) (hg : w.heap[g]? = some (.cells C T fr)) (hV : View C g v bs) (hl : 4 ≤ bs.length) (hn : be ((bs.drop 1).take 3) + 4 = bs.length) :
    Calls Try.prog 77 #[.pointer (some ⟨m, 0, none⟩), v] w fun e w' => ∃ v' n, e = .returned (.bool true) ∧ w' = (w.setCell ⟨m, 0, none⟩ v').drewN n ∧ View C g v' (bs.drop 4) := by
  obtain ⟨off, cap, rfl, hc, hm2, hcell⟩ := hV
  have f0 : w.cell? ⟨m, 0, none⟩ = some (.slice none 0 0) := by rw [cell_of_heap hm]; rfl
  have hfz : w.frozen? ⟨m, 0, none⟩ = false := frozen_of_heap hm
  have V1 := Lib.hid (View.drop (db := g) 4 hl hc hm2 hcell)
  have V2 : Hid (4 = bs.length → View C g (.slice (some ⟨g, off, none⟩) 0 0) (bs.drop 4)) := fun h => View.dropAll 4 h
  obtain ⟨b0, b1, b2, b3, r, rfl⟩ : ∃ b0 b1 b2 b3 r, bs = b0 :: b1 :: b2 :: b3 :: r := by
    match bs, hl with
    | b0 :: b1 :: b2 :: b3 :: r, _ => exact ⟨_, _, _, _, _, rfl⟩
  have g1 : w.cell? ⟨g, off + 1, none⟩ = some (by8 b1) := by rw [cell_of_heap hg, hcell 1 (by simp)]; rfl
  have g2 : w.cell? ⟨g, off + 2, none⟩ = some (by8 b2) := by rw [cell_of_heap hg, hcell 2 (by simp)]; rfl
  have g3 : w.cell? ⟨g, off + 3, none⟩ = some (by8 b3) := by rw [cell_of_heap hg, hcell 3 (by simp)]; rfl
  have hm' : cap ≤ 9223372036854775807 := hm2
  have hor := i64_be3 b1 b2 b3
  have hn2 : ((be [b1, b2, b3] : Nat) : Int) = (r.length : Int) := by
    have h : be [b1, b2, b3] + 4 = (b0 :: b1 :: b2 :: b3 :: r).length := hn
    simp only [List.length_cons] at h
    omega
  rw [hn2] at hor
  have HOR := Lib.hid hor
  have hsub : ((r.length : Int) != wrap64 ((r.length : Int) + 1 + 1 + 1 + 1 - 4)) = false := by
    simp only [List.length_cons] at hc
    unfold maxLen at hm2
    rw [bne_eq_false_iff_eq]
    unfold wrap64
    omega
  clear hcell hm hm2 hg hor hn2 hn
  by_cases h4 : 4 = cap
  · go_enter Try.func77, Try.ntmps77
    go_wp2_with fail
    go_quiet (fail)
    rw [HOR.out]
    go_wp2_with fail
    go_ret
    have hr0 : r.length = 0 := by simp only [List.length_cons] at hc; omega
    exact ⟨_, nq, rfl, rfl, by rw [hr0]; exact V2.out (by simp [hr0])⟩
  · go_enter Try.func77, Try.ntmps77
    go_wp2_with fail
    go_quiet (fail)
    rw [HOR.out]
    go_wp2_with fail
    go_ret
    exact ⟨_, nq, rfl, rfl, V1.out⟩

set_option maxRecDepth 100000 in
set_option maxHeartbeats 400000 in
theorem cky_tls {C : Array Value} {T : TypeId} {fr : Nat × Nat} {g : Nat} {v : Value} {bs : List UInt8} (w : World) (hg : w.heap[g]? = some (.cells C T fr)) (hV : View C g v bs) (hl : 4 ≤ bs.length) (hn : be ((bs.drop 1).take 3) + 4 = bs.length) :
    Calls Try.prog 42 #[v] w fun e w' => ∃ v', e = .returned (.tuple #[v', .bool true]) ∧ View C g v' (bs.drop 4) ∧ Below w.heap.size w w' := by
  have HV := Lib.hid hV
  have HG := Lib.hid hg
  clear hV hg
  go_enter Try.func42, Try.ntmps42
  go_wp2_with fail
  refine (cky_unmarshal (m := w.heap.size) _ (heap_alloc_new _ _) ((Below.heap_alloc _ _ _ (lt_of_heap HG.out)).trans HG.out) HV.out hl hn).mono ?_
  rintro e w1 ⟨v', nq, rfl, rfl, hv⟩
  have HV1 := Lib.hid hv
  obtain ⟨off, cap, rfl, _, _, _⟩ := hv
  go_wp2_with fail
  go_ret2
  exact ⟨_, rfl, by have h := HV1.out; simpa using h, Below_drewN ((Below.refl _ w).alloc (Nat.le_refl _) _) nq⟩

set_option maxRecDepth 100000 in
set_option maxHeartbeats 400000 in
theorem cky_impl {C : Array Value} {T : TypeId} {fr : Nat × Nat} {g : Nat} {v : Value} {bs : List UInt8} (w : World) (hg : w.heap[g]? = some (.cells C T fr)) (hV : View C g v bs) (hl : 4 ≤ bs.length) (hn : be ((bs.drop 1).take 3) + 4 = bs.length) :
    Calls Try.prog 17 #[v] w fun e w' => ∃ v', e = .returned (.tuple #[v', .bool true]) ∧ View C g v' (bs.drop 4) ∧ Below w.heap.size w w' := by
  have HV := Lib.hid hV
  have HG := Lib.hid hg
  clear hV hg
  go_enter Try.func17, Try.ntmps17
  go_wp2_with fail
  refine (cky_tls w HG.out HV.out hl hn).mono ?_
  rintro e w1 ⟨v', rfl, hv, hb⟩
  have HV1 := Lib.hid hv
  have HB := Lib.hid hb
  clear hv hb
  go_wp2_with fail
  go_ret2
  exact ⟨_, rfl, HV1.out, HB.out⟩

end Go.Proofs.Ytopcljikkdlffaa
