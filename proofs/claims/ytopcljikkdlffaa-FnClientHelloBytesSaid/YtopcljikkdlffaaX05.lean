/- The reference's writer: a writer within a writer, a message, a plain message. Sameness of bytes, the reference's KeyUpdate, and that the program is alive. ServerKeyExchange and ClientKeyExchange: made and read. ServerKeyExchange and ClientKeyExchange are read. No statement of the seat is proved here. -/
import Derived.Test.YtopcljikkdlffaaX03
import Derived.Test.YtopcljikkdlffaaX04
import Derived.Laws.IdiomStrings
import Derived.Laws.OwnMore
namespace Go.Proofs.Ytopcljikkdlffaa
open Go.RowKit

theorem WAt.alloc {w : World} {base c : Nat} {bad : Bool} {bs : List UInt8} (h : WAt w base c bad bs) (o : Obj) : WAt (w.alloc o) base c bad bs := by
  obtain ⟨v, hh, hown, hb⟩ := h
  exact ⟨v, (Below.heap_alloc _ _ _ (lt_of_heap hh)).trans hh, hown.alloc _, by simp; omega⟩

theorem WAt.setBad {w : World} {base c : Nat} {bad b : Bool} {bs : List UInt8} (h : WAt w base c bad bs) : WAt (w.setCell ⟨c, 1, none⟩ (.bool b)) base c b bs := by
  obtain ⟨v, hh, hown, hb⟩ := h
  exact ⟨v, (heap_set_same hh).trans rfl, ownsRow_set hown hh (by decide), by simpa [World.setCell] using hb⟩

set_option maxRecDepth 100000 in
set_option maxHeartbeats 1000000 in
theorem winner_ok {base c : Nat} {bad xb : Bool} {bs s : List UInt8} {u : Value} (k : Nat) (w : World) (hk : k = 1 ∨ k = 2 ∨ k = 3) (hW : WAt w base c bad bs) (hc : base ≤ c) (hs : SrcB w base u s) (hs2 : s.length ≤ 4294967296) (hl : bs.length + s.length + 4 ≤ 70368744177664) :
    Calls Try.prog 71 #[.pointer (some ⟨c, 0, none⟩), .int .i64 k, .agg #[u, .bool xb]] w fun e w' => e = .returned (.tuple #[]) ∧ WAt w' base c ((bad || xb) || decide (256 ^ k ≤ s.length)) (bs ++ en k s.length ++ s) ∧ Fr base c w w' := by
  obtain ⟨ad0, cap0, rfl⟩ := hs.len
  have HW := Lib.hid hW
  have HS := Lib.hid hs
  obtain ⟨v, hh, hown, hb⟩ := hW
  have hlt := lt_of_heap hh
  have hne : c ≠ w.heap.size := by omega
  have f1 : w.cell? ⟨c, 1, none⟩ = some (.bool bad) := by rw [cell_of_heap hh]; rfl
  have hfz : w.frozen? ⟨c, 1, none⟩ = false := frozen_of_heap hh
  clear hs hown hh
  go_enter Try.func71, Try.ntmps71
  cases bad <;> go_wp2_with fail
  all_goals
    refine (wvec_ok k _ hk (HW.out.setBad.alloc _) hc (HS.out.fr (((Fr.refl base c w).setCell 1 _).alloc _) hc hb) hs2 hl).mono ?_
    rintro e w1 ⟨rfl, hW1, hF1⟩
    have HW1 := Lib.hid hW1
    have HF1 := Lib.hid hF1
    clear hW1 hF1
    go_wp2_with fail
    go_end0
    exact ⟨rfl, by simpa using HW1.out, (((Fr.refl base c w).setCell 1 _).alloc _).trans HF1.out⟩

/-- A writer that has just been laid. -/
theorem wat_new (w : World) {base : Nat} (hb : base ≤ w.heap.size) : WAt (w.alloc (.cells #[.slice none 0 0, .bool false] 62)) base w.heap.size false [] :=
  ⟨_, heap_alloc_new _ _, World.ownsRow_nil _ _ _ _, by simp; omega⟩

set_option maxRecDepth 100000 in
set_option maxHeartbeats 1000000 in
/-- A message: its number, the length in three bytes, the body; and whether it is short enough. -/
theorem message_ok {xb : Bool} {s : List UInt8} {u : Value} (kind : Nat) (w : World) (hkind : kind < 256) (hs : SrcB w w.heap.size u s) (hs2 : s.length ≤ 4294967296) :
    Calls Try.prog 34 #[.int .i64 kind, .agg #[u, .bool xb]] w fun e w' => ∃ v, e = .returned (.tuple #[v, .bool (!(xb || decide (256 ^ 3 ≤ s.length)))]) ∧
      w'.ownsRow w.heap.size 5 1 v (s.length + 4) ((en 1 kind ++ en 3 s.length ++ s).map by8) ∧ Below w.heap.size w w' := by
  obtain ⟨ad0, cap0, rfl⟩ := hs.len
  have HS := Lib.hid hs
  clear hs
  go_enter Try.func34, Try.ntmps34
  go_wp2_with fail
  have HW0 := Lib.hid (wat_new (w.alloc (.cells #[.slice ad0 s.length cap0, .bool xb] 62)) (base := w.heap.size) (by simp))
  rw [World.size_alloc] at HW0
  have HS0 := Lib.hid (HS.out.below (((Below.refl _ w).alloc (Nat.le_refl _) (.cells #[.slice ad0 s.length cap0, .bool xb] 62)).alloc (by simp) (.cells #[.slice none 0 0, .bool false] 62)))
  refine (wnum_ok (base := w.heap.size) _ _ _ (by omega) (by omega) HW0.out (by simp)).mono ?_
  rintro e w1 ⟨rfl, hW1, hF1⟩
  have c1 : w1.heap[w.heap.size]? = some (.cells #[.slice ad0 s.length cap0, .bool xb] 62 (0, 0)) := by
    rw [hF1.keep _ (by simp; omega) (by omega) (.inr ?_)]
    · exact (Below.heap_alloc _ _ _ (by simp)).trans (heap_alloc_new _ _)
    · rintro ⟨cs, fr, e⟩
      rw [(Below.heap_alloc _ _ _ (by simp)).trans (heap_alloc_new _ _)] at e
      simp at e
  have d0 : w1.cell? ⟨w.heap.size, 0, none⟩ = some (.slice ad0 s.length cap0) := by rw [cell_of_heap c1]; rfl
  have d1 : w1.cell? ⟨w.heap.size, 1, none⟩ = some (.bool xb) := by rw [cell_of_heap c1]; rfl
  have hsz := hF1.size
  simp only [World.size_alloc] at hsz
  have HS1 := Lib.hid (HS0.out.fr hF1 (by omega) (by simp; omega))
  have HW1 := Lib.hid hW1
  have HF1 := Lib.hid hF1
  clear hW1 hF1 c1
  go_wp2_with fail
  refine (winner_ok (base := w.heap.size) 3 _ (.inr (.inr rfl)) HW1.out (by omega) HS1.out hs2 (by simp [en_length]; omega)).mono ?_
  rintro e w2 ⟨rfl, hW2, hF2⟩
  simp only [Bool.false_or, List.nil_append, Int.toNat_natCast, show (1 : Int).toNat = 1 from rfl] at hW2
  obtain ⟨v, hh, hown, hb⟩ := hW2
  have g0 : w2.cell? ⟨w.heap.size + 1, 0, none⟩ = some v := by rw [cell_of_heap hh]; rfl
  have g1 : w2.cell? ⟨w.heap.size + 1, 1, none⟩ = some (.bool (xb || decide (256 ^ 3 ≤ s.length))) := by rw [cell_of_heap hh]; rfl
  have HO := Lib.hid hown
  have HB : Below w.heap.size w w2 := (((Below.refl _ w).alloc (Nat.le_refl _) _).alloc (by simp) _).trans (((HF1.out.trans hF2)).below (by simp; omega) (by omega))
  have HB := Lib.hid HB
  obtain ⟨bad, hbad⟩ : ∃ b, b = (xb || decide (256 ^ 3 ≤ s.length)) := ⟨_, rfl⟩
  rw [← hbad] at g1
  have HBD := Lib.hid hbad
  clear hbad
  clear hh hown hF2
  go_wp2_with fail
  go_quiet (fail)
  go_wp2_with fail
  go_ret2
  refine ⟨v, by rw [← HBD.out]; rfl, ?_, Below_drewN HB.out nq⟩
  have h := HO.out
  have e1 : (en 1 kind ++ en 3 s.length ++ s).length = s.length + 4 := by simp [en_length]; omega
  rw [← e1]
  exact h

theorem results_cell1 {fn : Func} {p : Tmp} {ty : TypeId} (h : fn.results = #[.cell p ty]) (tmps : Array Value) (P : Program) (w : World) :
    (results fn tmps).run P w = ((asAddr (tmps.getD p undef)).run P w).andThen fun a w₁ => (loadVar ty a).run P w₁ := by
  simp only [results, h]
  simp [Sem.run_bind, Result.andThen]

set_option maxRecDepth 100000 in
set_option maxHeartbeats 400000 in
theorem plain_ok {ao : Option Addr} {n cap : Nat} (w : World) :
    Calls Try.prog 35 #[.slice ao n cap] w fun e w' => e = .returned (.agg #[.slice ao n cap, .bool false]) ∧ Below w.heap.size w w' := by
  go_enter Try.func35, Try.ntmps35
  go_wp2_with fail
  (try simp only [Exit.inBlock, Exit.then])
  refine bodyPost_ret (v := .agg #[.slice ao n cap, .bool false]) ?_ rfl ⟨rfl, (Below.refl _ w).alloc (Nat.le_refl _) _⟩
  rw [results_cell1 rfl]
  go_simp

set_option maxRecDepth 100000 in
set_option maxHeartbeats 400000 in
theorem writePlain_ok {s : List UInt8} {u : Value} (kind : Nat) (w : World) (hkind : kind < 256) (hs : SrcB w w.heap.size u s) (hs2 : s.length ≤ 4294967296) :
    Calls Try.prog 11 #[.int .i64 kind, u] w fun e w' => ∃ v, e = .returned (.tuple #[v, .bool (!decide (256 ^ 3 ≤ s.length))]) ∧
      w'.ownsRow w.heap.size 5 1 v (s.length + 4) ((en 1 kind ++ en 3 s.length ++ s).map by8) ∧ Below w.heap.size w w' := by
  obtain ⟨ad0, cap0, rfl⟩ := hs.len
  have HS := Lib.hid hs
  clear hs
  go_enter Try.func11, Try.ntmps11
  go_wp2_with fail
  refine (plain_ok w).mono ?_
  rintro e w1 ⟨rfl, hB1⟩
  have HS1 := Lib.hid ((HS.out.below hB1).keep hB1.size (fun _ _ => rfl))
  have HB1 := Lib.hid hB1
  clear hB1
  go_wp2_with fail
  refine (message_ok kind w1 hkind HS1.out hs2).mono ?_
  rintro e w2 ⟨v, rfl, hown, hB2⟩
  rw [Bool.false_or]
  have HO := Lib.hid (ownsRow_mono hown HB1.out.size)
  have HB := Lib.hid (HB1.out.trans (hB2.mono HB1.out.size))
  clear hown hB2
  go_wp2_with fail
  go_ret2
  exact ⟨v, rfl, HO.out, HB.out⟩

end Go.Proofs.Ytopcljikkdlffaa
namespace Go.Proofs.Ytopcljikkdlffaa
open Go.RowKit

theorem conv_ok {w : World} {v : Value} {s : List UInt8} (h : Src w v s) : (convert 22 9 v).run Try.prog w = .ok (.string ⟨s.toArray⟩) w := by
  rcases h with ⟨rfl, rfl⟩ | ⟨ad, cap, rfl, hc⟩
  · rw [run_convert_bytes_string w _ _ 5 none 0 0 Try.underlying22 Try.underlying5 Try.underlying9]
    simp [Conv.bytesToString, Sem.run_pure]
    rfl
  · refine run_convert_bytes_back w _ _ 5 ad cap s Try.underlying22 Try.underlying5 Try.underlying9 fun j hj => hc j _ ?_
    simp [List.getElem?_map, List.getElem?_eq_getElem hj, by8]

set_option maxRecDepth 100000 in
set_option maxHeartbeats 400000 in
theorem same_ok {s t : List UInt8} {u v : Value} (w : World) (hs : Src w u s) (ht : Src w v t) :
    Calls Try.prog 40 #[u, v] w fun e w' => e = .returned (.bool (decide (s = t))) ∧ w' = w := by
  have h1 := conv_ok hs
  have h2 := conv_ok ht
  go_enter Try.func40, Try.ntmps40
  go_wp2_with fail
  go_ret
  refine ⟨?_, rfl⟩
  simp only [Ending.returned.injEq]
  simp
  rw [Bool.eq_iff_iff]
  simp

set_option maxRecDepth 100000 in
set_option maxHeartbeats 400000 in
theorem Same_ok {s t : List UInt8} {u v : Value} (w : World) (hs : Src w u s) (ht : Src w v t) :
    Calls Try.prog 15 #[u, v] w fun e w' => e = .returned (.bool (decide (s = t))) ∧ w' = w := by
  go_enter Try.func15, Try.ntmps15
  go_wp2_with fail
  refine (same_ok w hs ht).mono ?_
  rintro e w1 ⟨rfl, rfl⟩
  go_wp2_with fail
  go_ret
  exact ⟨rfl, rfl⟩

set_option maxRecDepth 100000 in
set_option maxHeartbeats 1000000 in
theorem number_ok (k n : Nat) (w : World) (hk : k ≤ 4) (hn : n ≤ 4294967296) :
    Calls Try.prog 73 #[.int .i64 k, .int .i64 n] w fun e w' => ∃ v, e = .returned (.agg #[v, .bool false]) ∧ w'.ownsRow w.heap.size 5 1 v k ((en k n).map by8) ∧ Below w.heap.size w w' := by
  go_enter Try.func73, Try.ntmps73
  go_wp2_with fail
  have HW0 := Lib.hid (wat_new (w.alloc (.cells #[.slice none 0 0, .bool false] 62)) (base := w.heap.size) (by simp))
  rw [World.size_alloc] at HW0
  refine (wnum_ok (base := w.heap.size) _ _ _ (by omega) (by omega) HW0.out (by simp)).mono ?_
  rintro e w1 ⟨rfl, hW1, hF1⟩
  have c1 : w1.heap[w.heap.size]? = some (.cells #[.slice none 0 0, .bool false] 62 (0, 0)) := by
    rw [hF1.keep _ (by simp; omega) (by omega) (.inr ?_)]
    · exact (Below.heap_alloc _ _ _ (by simp)).trans (heap_alloc_new _ _)
    · rintro ⟨cs, fr, e⟩
      rw [(Below.heap_alloc _ _ _ (by simp)).trans (heap_alloc_new _ _)] at e
      simp at e
  rw [Int.toNat_natCast, Int.toNat_natCast, List.nil_append] at hW1
  obtain ⟨v, hh, hown, hb⟩ := hW1
  rw [en_length] at hown
  obtain ⟨ao, cap, rfl⟩ := row_slice hown
  have g0 : w1.cell? ⟨w.heap.size + 1, 0, none⟩ = some (.slice ao k cap) := by rw [cell_of_heap hh]; rfl
  have g1 : w1.cell? ⟨w.heap.size + 1, 1, none⟩ = some (.bool false) := by rw [cell_of_heap hh]; rfl
  have d0 : w1.cell? ⟨w.heap.size, 0, none⟩ = some (.slice none 0 0) := by rw [cell_of_heap c1]; rfl
  have d1 : w1.cell? ⟨w.heap.size, 1, none⟩ = some (.bool false) := by rw [cell_of_heap c1]; rfl
  have hfz : ∀ o, w1.frozen? ⟨w.heap.size, o, none⟩ = false := fun o => frozen_of_heap c1
  have HO := Lib.hid hown
  have HC := Lib.hid c1
  have HB : Below w.heap.size w w1 := (((Below.refl _ w).alloc (Nat.le_refl _) _).alloc (by simp) _).trans (hF1.below (by simp; omega) (by omega))
  have HB := Lib.hid HB
  clear hh hown hF1 c1
  go_wp2_with fail
  (try simp only [Exit.inBlock, Exit.then])
  have hc2 : ∀ u, (w1.setCell ⟨w.heap.size, 0, none⟩ u).heap[w.heap.size]? = some (.cells #[u, .bool false] 62 (0, 0)) := fun u => (heap_set_same HC.out).trans rfl
  refine bodyPost_ret (v := .agg #[.slice ao k cap, .bool false]) ?_ rfl ⟨_, rfl, ownsRow_set (ownsRow_set HO.out HC.out (by decide)) (hc2 _) (by decide), (HB.out.setCell (Nat.le_refl _) _).setCell (Nat.le_refl _) _⟩
  rw [results_cell1 rfl]
  go_simp

set_option maxRecDepth 100000 in
set_option maxHeartbeats 400000 in
theorem writeUpdate_ok (w : World) :
    Calls Try.prog 37 #[.bool true] w fun e w' => ∃ v, e = .returned v ∧ w'.ownsRow w.heap.size 5 1 v 5 ([24, 0, 0, 1, 1].map by8) ∧ Below w.heap.size w w' := by
  go_enter Try.func37, Try.ntmps37
  go_wp2_with fail
  refine (number_ok 1 1 w (by omega) (by omega)).mono ?_
  rintro e w1 ⟨v, rfl, hown, hB⟩
  have HS := Lib.hid (src_own hown (Nat.le_refl _))
  obtain ⟨ao, cap, rfl⟩ := row_slice hown
  have HB := Lib.hid hB
  clear hown hB
  go_wp2_with fail
  refine (message_ok 24 w1 (by omega) HS.out (by simp [en_length])).mono ?_
  rintro e w2 ⟨v2, rfl, hown, hB2⟩
  have HO := Lib.hid (ownsRow_mono hown HB.out.size)
  have HB2 := Lib.hid (HB.out.trans (hB2.mono HB.out.size))
  clear hown hB2
  go_wp2_with fail
  go_ret
  exact ⟨v2, rfl, HO.out, HB2.out⟩

set_option maxRecDepth 100000 in
set_option maxHeartbeats 400000 in
theorem alive_ok (w : World) : Calls Try.prog 12 #[] w fun e w' => e = .returned (.bool true) ∧ Below w.heap.size w w' := by
  go_enter Try.func12, Try.ntmps12
  go_wp2_with fail
  refine (ku_impl w).mono ?_
  rintro e w1 ⟨v, rfl, hown, hB⟩
  have HS := Lib.hid (src_own (base := w1.heap.size) hown (Nat.le_refl _))
  have HB := Lib.hid hB
  clear hown hB
  go_wp2_with fail
  refine (writeUpdate_ok w1).mono ?_
  rintro e w2 ⟨v2, rfl, hown, hB2⟩
  have HS1 := Lib.hid (HS.out.below hB2)
  have HS2 := Lib.hid (src_own (base := w2.heap.size) hown (Nat.le_refl _))
  have HB2 := Lib.hid (HB.out.trans (hB2.mono HB.out.size))
  clear hown hB2
  go_wp2_with fail
  refine (Same_ok w2 HS1.out.src HS2.out.src).mono ?_
  rintro e w3 ⟨rfl, rfl⟩
  go_wp2_with fail
  go_ret
  exact ⟨rfl, HB2.out⟩

end Go.Proofs.Ytopcljikkdlffaa
namespace Go.Proofs.Ytopcljikkdlffaa
open Go.RowKit

/-- A row of bytes is made. -/
theorem make_row (w : World) (n : Nat) (h : n ≤ 281474976710656) : (Instr.makeSlice 22 (.int .i64 n) (.int .i64 n)).run Try.prog w = .ok (.slice (some ⟨w.heap.size, 0, none⟩) n n) (w.alloc (.cells (List.replicate n (Value.int .u8 0)).toArray 5)) := by
  obtain ⟨i0, hi, hz0, hz1, hz2⟩ := info_parts Try.info5
  rw [run_make w _ 5 i0 _ Try.underlying22 hi hz0 .i64 .i64 n n (by omega) (by omega) (by rw [hz2]; omega) (by omega)]
  have e : madeCells (Value.int IntKind.u8 0).cells ((n : Int).toNat * i0.size) = (List.replicate n (Value.int .u8 0)).toArray := by
    rw [hz1, Int.toNat_natCast, Nat.mul_one]
    refine Array.ext (by simp [madeCells]) fun i h1 h2 => ?_
    simp [madeCells, Value.cells, Nat.mod_one]
  rw [e, Int.toNat_natCast]

/-- A copy over a row, as one operation. -/
theorem wp_copy {P : Program} {o : Oper} {a : Act} {w : World} {K : Act → World → Prop} {Q : Exit → Act → World → Prop} (hgd : o.guard = none) (d s : Operand) (dT sT : TypeId)
    (ho : o.op = .call { callee := .builtin .copy, args := #[d, s], argTypes := #[dT, sT] }) (elem : TypeId) (hu : P.underlying dT = some (.slice elem)) (hsz : (P.info? elem).map (·.size) = some 1)
    (dp sp : Option Addr) (dLen dCap sLen sCap : Nat) (hd : a.eval d = .slice dp dLen dCap) (hs : a.eval s = .slice sp sLen sCap)
    (g off : Nat) (cur : List Value) (t : TypeId) (hg : w.heap[g]? = some (.cells cur.toArray t (0, 0))) (cs : List Value) (hn : cs.length = Nat.min sLen dLen)
    (hpos : 0 < cs.length → dp = some ⟨g, off, none⟩ ∧ ∃ ad, sp = some ad ∧ ∀ j v, cs[j]? = some v → w.cell? (ad.add j) = some v)
    (hfit : off + cs.length ≤ cur.length) (h1 : ∀ v ∈ cs, v.oneCell' = true) (B : Nat) (w0 : World) (hb : Below B w0 w) (hBg : B ≤ g)
    (h : ∀ w', Hid (w'.heap[g]? = some (.cells (splice cur off cs).toArray t (0, 0))) → Below B w0 w' → K (a.put o.dst (goInt cs.length)) w') : o.wp P a w K Q := by
  have h2 := step_copy_splice (P := P) (ops := #[]) (E := False) (Q := Q) hgd d s dT sT ho elem hu hsz dp sp dLen dCap sLen sCap hd hs g off cur t hg cs hn hpos hfit h1 B w0 hb hBg h
  rwa [if_pos (by simp [Region.wanted, hgd])] at h2

set_option maxRecDepth 100000 in
set_option maxHeartbeats 1000000 in
theorem skx_marshal {m : Nat} {s : List UInt8} {u : Value} (w : World) (hm : w.heap[m]? = some (.cells #[u] 114 (0, 0))) (hs : SrcB w w.heap.size u s) (hl : s.length ≤ 2147483647) :
    Calls Try.prog 74 #[.pointer (some ⟨m, 0, none⟩)] w fun e w' => ∃ v, e = .returned (.tuple #[v, .nilIface]) ∧
      w'.ownsRow w.heap.size 5 1 v (s.length + 4) ((en 1 12 ++ en 3 s.length ++ s).map by8) ∧ Below w.heap.size w w' := by
  obtain ⟨ad0, cap0, rfl⟩ := hs.len
  have f0 : w.cell? ⟨m, 0, none⟩ = some (.slice ad0 s.length cap0) := by rw [cell_of_heap hm]; rfl
  have HS := Lib.hid hs
  have HM := Lib.hid hm
  clear hs hm
  obtain ⟨L, hL⟩ : ∃ L, L = List.replicate s.length (Value.int .u8 0) := ⟨_, rfl⟩
  have hmk := make_row w (s.length + 4) (by omega)
  rw [show List.replicate (s.length + 4) (Value.int .u8 0) = .int .u8 0 :: .int .u8 0 :: .int .u8 0 :: .int .u8 0 :: L by rw [hL]; rfl, show ((s.length + 4 : Nat) : Int) = (s.length : Int) + 4 by omega] at hmk
  have HL := Lib.hid hL
  clear hL
  go_enter Try.func74, Try.ntmps74
  go_wp2_with fail
  have hbel : Below w.heap.size w (w.alloc (.cells (Value.int IntKind.u8 12 :: Value.int IntKind.u8 (↑s.length / 65536 % 256) :: Value.int IntKind.u8 (↑s.length / 256 % 256) :: Value.int IntKind.u8 (↑s.length % 256) :: L).toArray 5)).drew := ((Below.refl _ w).alloc (Nat.le_refl _) _).drew
  have HBE := Lib.hid hbel
  have hgg : (w.alloc (.cells (Value.int IntKind.u8 12 :: Value.int IntKind.u8 (↑s.length / 65536 % 256) :: Value.int IntKind.u8 (↑s.length / 256 % 256) :: Value.int IntKind.u8 (↑s.length % 256) :: L).toArray 5)).drew.heap[w.heap.size]? = _ := heap_alloc_new _ _
  have HGG := Lib.hid hgg
  have fm : (w.alloc (.cells (Value.int IntKind.u8 12 :: Value.int IntKind.u8 (↑s.length / 65536 % 256) :: Value.int IntKind.u8 (↑s.length / 256 % 256) :: Value.int IntKind.u8 (↑s.length % 256) :: L).toArray 5)).drew.cell? ⟨m, 0, none⟩ = some (.slice ad0 s.length cap0) := by
    show World.cell? (w.alloc _) _ = _
    rw [World.cell?_alloc_lt _ _ _ (lt_of_heap HM.out)]; exact f0
  have HS1 := Lib.hid (HS.out.below hbel)
  clear hbel hgg hmk
  have h4 : (4 : Int) ≤ (s.length : Int) + 4 := by omega
  refine region_ord [(0, true), (1, true), (2, true), (3, true), (4, true), (5, true), (6, false)] (fun w' => w'.cell? ⟨m, 0, none⟩ = some (.slice ad0 s.length cap0)) mixed (by kernel_rfl) (by kernel_rfl) rfl (by intro c a d v w h; cases d <;> exact h) fm ?_
  iterate 6 (apply wpOrd_pure rfl rfl; apply Exists.intro; refine ⟨fun w' hS => ?_, ?_⟩; (· (first | (go_simp; done) | (go_simp; with_reducible rfl))); simp only [List.getElem_toArray, List.getElem_cons_succ, List.getElem_cons_zero, Act.put, List.setIfInBounds_toArray, List.set_cons_zero, List.set_cons_succ])
  refine wpOrd_run rfl rfl (fun K hK => ?_)
  simp only [List.getElem_toArray, List.getElem_cons_succ, List.getElem_cons_zero]
  refine wp_copy rfl (.tmp 31) (.tmp 35) 22 22 rfl 5 Try.underlying22 (by kernel_rfl) _ _ _ _ _ _ rfl rfl w.heap.size 4 _ _ HGG.out (s.map by8) ?_ ?_ ?_ ?_ w.heap.size w HBE.out (Nat.le_refl _) ?_
  · simp
  · intro hp
    have hne : s ≠ [] := by rintro rfl; simp at hp
    refine ⟨by simp [hne], ?_⟩
    rcases HS1.out with ⟨e, rfl⟩ | ⟨ad, capx, e, hlt, hnews⟩
    · exact (hne rfl).elim
    · simp only [Value.slice.injEq] at e
      obtain ⟨rfl, _, rfl⟩ := e
      exact ⟨ad, rfl, hnews⟩
  · have hLL : L.length = s.length := by rw [HL.out]; simp
    simp [hLL]
    omega
  · intro u hu
    obtain ⟨b, _, rfl⟩ := List.mem_map.1 hu
    rfl
  intro w' hg' hb'
  refine hK _ _ (fun _ => (hb'.cell (p := ⟨m, 0, none⟩) (lt_of_heap HM.out)).trans f0) ?_
  generalize (if s = [] then some (⟨w.heap.size, 0, none⟩ : Addr) else some ⟨w.heap.size, 4, none⟩) = dp
  refine wpOrd_nil ?_
  have HG' := Lib.hid hg'
  have HB' := Lib.hid hb'
  clear hK K hg' hb' fm
  go_wp2_with fail
  go_ret2
  refine ⟨_, rfl, ⟨by simp [en_length]; omega, .inr ⟨w.heap.size, s.length + 4, _, rfl, Nat.le_refl _, HG'.out.out, by omega, by unfold maxLen; omega, ?_, ?_⟩⟩, HB'.out⟩
  · have hLL : L.length = s.length := by rw [HL.out]; simp
    rw [List.size_toArray, length_splice _ _ _ (by simp [hLL]; omega)]
    simp [hLL]
  · have hLL : L.length = s.length := by rw [HL.out]; simp
    rw [en1, en3, Nat.mul_one]
    have e1 : by8 (UInt8.ofNat 12) = .int .u8 12 := rfl
    have e2 : by8 (UInt8.ofNat (s.length / 65536)) = .int .u8 (↑s.length / 65536 % 256) := by8_int (by simp)
    have e3 : by8 (UInt8.ofNat (s.length / 256)) = .int .u8 (↑s.length / 256 % 256) := by8_int (by simp)
    have e4 : by8 (UInt8.ofNat s.length) = .int .u8 (↑s.length % 256) := by8_int (by simp)
    have e5 : splice (Value.int IntKind.u8 12 :: Value.int IntKind.u8 (↑s.length / 65536 % 256) :: Value.int IntKind.u8 (↑s.length / 256 % 256) :: Value.int IntKind.u8 (↑s.length % 256) :: L) 4 (s.map by8) = (([UInt8.ofNat 12] ++ [UInt8.ofNat (s.length / 65536), UInt8.ofNat (s.length / 256), UInt8.ofNat s.length] ++ s).map by8) := by
      simp only [splice, List.length_map, List.map_append, List.map_cons, List.map_nil, e1, e2, e3, e4]
      rw [List.drop_eq_nil_of_le (by simp [hLL]; omega)]
      simp
    show (splice _ 4 _).take _ = _
    rw [e5, List.take_of_length_le (by simp)]

set_option maxRecDepth 100000 in
set_option maxHeartbeats 400000 in
theorem skx_tls {s : List UInt8} {u : Value} (w : World) (hs : SrcB w w.heap.size u s) (hl : s.length ≤ 2147483647) :
    Calls Try.prog 38 #[u] w fun e w' => ∃ v, e = .returned (.tuple #[v, .nilIface]) ∧ w'.ownsRow w.heap.size 5 1 v (s.length + 4) ((en 1 12 ++ en 3 s.length ++ s).map by8) ∧ Below w.heap.size w w' := by
  obtain ⟨ad0, cap0, rfl⟩ := hs.len
  have HS := Lib.hid (hs.keep (w' := w.alloc (.cells #[.slice ad0 s.length cap0] 114)) (base' := (w.alloc (.cells #[.slice ad0 s.length cap0] 114)).heap.size) (by simp) (fun k hk => Below.heap_alloc _ _ _ hk))
  clear hs
  go_enter Try.func38, Try.ntmps38
  go_wp2_with fail
  refine (skx_marshal (m := w.heap.size) _ (heap_alloc_new _ _) HS.out hl).mono ?_
  rintro e w1 ⟨v, rfl, hown, hbel⟩
  have HO := Lib.hid hown
  have HB := Lib.hid hbel
  clear hown hbel
  go_wp2_with fail
  go_ret2
  exact ⟨v, rfl, ownsRow_mono HO.out (by simp), ((Below.refl _ w).alloc (Nat.le_refl _) _).trans (HB.out.mono (by simp))⟩

set_option maxRecDepth 100000 in
set_option maxHeartbeats 400000 in
theorem skx_impl {s : List UInt8} {u : Value} (w : World) (hs : SrcB w w.heap.size u s) (hl : s.length ≤ 2147483647) :
    Calls Try.prog 13 #[u] w fun e w' => ∃ v, e = .returned (.tuple #[v, .bool true]) ∧ w'.ownsRow w.heap.size 5 1 v (s.length + 4) ((en 1 12 ++ en 3 s.length ++ s).map by8) ∧ Below w.heap.size w w' := by
  have HS := Lib.hid hs
  clear hs
  go_enter Try.func13, Try.ntmps13
  go_wp2_with fail
  refine (skx_tls w HS.out hl).mono ?_
  rintro e w1 ⟨v, rfl, hown, hbel⟩
  have HO := Lib.hid hown
  have HB := Lib.hid hbel
  clear hown hbel
  go_wp2_with fail
  go_quiet (fail)
  go_wp2_with fail
  go_ret2
  exact ⟨v, rfl, HO.out, Below_drewN HB.out nq⟩

set_option maxRecDepth 100000 in
set_option maxHeartbeats 1000000 in
theorem ckx_marshal {m : Nat} {s : List UInt8} {u : Value} (w : World) (hm : w.heap[m]? = some (.cells #[u] 118 (0, 0))) (hs : SrcB w w.heap.size u s) (hl : s.length ≤ 2147483647) :
    Calls Try.prog 76 #[.pointer (some ⟨m, 0, none⟩)] w fun e w' => ∃ v, e = .returned (.tuple #[v, .nilIface]) ∧
      w'.ownsRow w.heap.size 5 1 v (s.length + 4) ((en 1 16 ++ en 3 s.length ++ s).map by8) ∧ Below w.heap.size w w' := by
  obtain ⟨ad0, cap0, rfl⟩ := hs.len
  have f0 : w.cell? ⟨m, 0, none⟩ = some (.slice ad0 s.length cap0) := by rw [cell_of_heap hm]; rfl
  have HS := Lib.hid hs
  have HM := Lib.hid hm
  clear hs hm
  obtain ⟨L, hL⟩ : ∃ L, L = List.replicate s.length (Value.int .u8 0) := ⟨_, rfl⟩
  have hmk := make_row w (s.length + 4) (by omega)
  rw [show List.replicate (s.length + 4) (Value.int .u8 0) = .int .u8 0 :: .int .u8 0 :: .int .u8 0 :: .int .u8 0 :: L by rw [hL]; rfl, show ((s.length + 4 : Nat) : Int) = (s.length : Int) + 4 by omega] at hmk
  have HL := Lib.hid hL
  clear hL
  go_enter Try.func76, Try.ntmps76
  go_wp2_with fail
  have hbel : Below w.heap.size w (w.alloc (.cells (Value.int IntKind.u8 16 :: Value.int IntKind.u8 (↑s.length / 65536 % 256) :: Value.int IntKind.u8 (↑s.length / 256 % 256) :: Value.int IntKind.u8 (↑s.length % 256) :: L).toArray 5)).drew := ((Below.refl _ w).alloc (Nat.le_refl _) _).drew
  have HBE := Lib.hid hbel
  have hgg : (w.alloc (.cells (Value.int IntKind.u8 16 :: Value.int IntKind.u8 (↑s.length / 65536 % 256) :: Value.int IntKind.u8 (↑s.length / 256 % 256) :: Value.int IntKind.u8 (↑s.length % 256) :: L).toArray 5)).drew.heap[w.heap.size]? = _ := heap_alloc_new _ _
  have HGG := Lib.hid hgg
  have fm : (w.alloc (.cells (Value.int IntKind.u8 16 :: Value.int IntKind.u8 (↑s.length / 65536 % 256) :: Value.int IntKind.u8 (↑s.length / 256 % 256) :: Value.int IntKind.u8 (↑s.length % 256) :: L).toArray 5)).drew.cell? ⟨m, 0, none⟩ = some (.slice ad0 s.length cap0) := by
    show World.cell? (w.alloc _) _ = _
    rw [World.cell?_alloc_lt _ _ _ (lt_of_heap HM.out)]; exact f0
  have HS1 := Lib.hid (HS.out.below hbel)
  clear hbel hgg hmk
  have h4 : (4 : Int) ≤ (s.length : Int) + 4 := by omega
  refine region_ord [(0, true), (1, true), (2, true), (3, true), (4, true), (5, true), (6, false)] (fun w' => w'.cell? ⟨m, 0, none⟩ = some (.slice ad0 s.length cap0)) mixed (by kernel_rfl) (by kernel_rfl) rfl (by intro c a d v w h; cases d <;> exact h) fm ?_
  iterate 6 (apply wpOrd_pure rfl rfl; apply Exists.intro; refine ⟨fun w' hS => ?_, ?_⟩; (· (first | (go_simp; done) | (go_simp; with_reducible rfl))); simp only [List.getElem_toArray, List.getElem_cons_succ, List.getElem_cons_zero, Act.put, List.setIfInBounds_toArray, List.set_cons_zero, List.set_cons_succ])
  refine wpOrd_run rfl rfl (fun K hK => ?_)
  simp only [List.getElem_toArray, List.getElem_cons_succ, List.getElem_cons_zero]
  refine wp_copy rfl (.tmp 31) (.tmp 35) 22 22 rfl 5 Try.underlying22 (by kernel_rfl) _ _ _ _ _ _ rfl rfl w.heap.size 4 _ _ HGG.out (s.map by8) ?_ ?_ ?_ ?_ w.heap.size w HBE.out (Nat.le_refl _) ?_
  · simp
  · intro hp
    have hne : s ≠ [] := by rintro rfl; simp at hp
    refine ⟨by simp [hne], ?_⟩
    rcases HS1.out with ⟨e, rfl⟩ | ⟨ad, capx, e, hlt, hnews⟩
    · exact (hne rfl).elim
    · simp only [Value.slice.injEq] at e
      obtain ⟨rfl, _, rfl⟩ := e
      exact ⟨ad, rfl, hnews⟩
  · have hLL : L.length = s.length := by rw [HL.out]; simp
    simp [hLL]
    omega
  · intro u hu
    obtain ⟨b, _, rfl⟩ := List.mem_map.1 hu
    rfl
  intro w' hg' hb'
  refine hK _ _ (fun _ => (hb'.cell (p := ⟨m, 0, none⟩) (lt_of_heap HM.out)).trans f0) ?_
  generalize (if s = [] then some (⟨w.heap.size, 0, none⟩ : Addr) else some ⟨w.heap.size, 4, none⟩) = dp
  refine wpOrd_nil ?_
  have HG' := Lib.hid hg'
  have HB' := Lib.hid hb'
  clear hK K hg' hb' fm
  go_wp2_with fail
  go_ret2
  refine ⟨_, rfl, ⟨by simp [en_length]; omega, .inr ⟨w.heap.size, s.length + 4, _, rfl, Nat.le_refl _, HG'.out.out, by omega, by unfold maxLen; omega, ?_, ?_⟩⟩, HB'.out⟩
  · have hLL : L.length = s.length := by rw [HL.out]; simp
    rw [List.size_toArray, length_splice _ _ _ (by simp [hLL]; omega)]
    simp [hLL]
  · have hLL : L.length = s.length := by rw [HL.out]; simp
    rw [en1, en3, Nat.mul_one]
    have e1 : by8 (UInt8.ofNat 16) = .int .u8 16 := rfl
    have e2 : by8 (UInt8.ofNat (s.length / 65536)) = .int .u8 (↑s.length / 65536 % 256) := by8_int (by simp)
    have e3 : by8 (UInt8.ofNat (s.length / 256)) = .int .u8 (↑s.length / 256 % 256) := by8_int (by simp)
    have e4 : by8 (UInt8.ofNat s.length) = .int .u8 (↑s.length % 256) := by8_int (by simp)
    have e5 : splice (Value.int IntKind.u8 16 :: Value.int IntKind.u8 (↑s.length / 65536 % 256) :: Value.int IntKind.u8 (↑s.length / 256 % 256) :: Value.int IntKind.u8 (↑s.length % 256) :: L) 4 (s.map by8) = (([UInt8.ofNat 16] ++ [UInt8.ofNat (s.length / 65536), UInt8.ofNat (s.length / 256), UInt8.ofNat s.length] ++ s).map by8) := by
      simp only [splice, List.length_map, List.map_append, List.map_cons, List.map_nil, e1, e2, e3, e4]
      rw [List.drop_eq_nil_of_le (by simp [hLL]; omega)]
      simp
    show (splice _ 4 _).take _ = _
    rw [e5, List.take_of_length_le (by simp)]

set_option maxRecDepth 100000 in
set_option maxHeartbeats 400000 in
theorem ckx_tls {s : List UInt8} {u : Value} (w : World) (hs : SrcB w w.heap.size u s) (hl : s.length ≤ 2147483647) :
    Calls Try.prog 41 #[u] w fun e w' => ∃ v, e = .returned (.tuple #[v, .nilIface]) ∧ w'.ownsRow w.heap.size 5 1 v (s.length + 4) ((en 1 16 ++ en 3 s.length ++ s).map by8) ∧ Below w.heap.size w w' := by
  obtain ⟨ad0, cap0, rfl⟩ := hs.len
  have HS := Lib.hid (hs.keep (w' := w.alloc (.cells #[.slice ad0 s.length cap0] 118)) (base' := (w.alloc (.cells #[.slice ad0 s.length cap0] 118)).heap.size) (by simp) (fun k hk => Below.heap_alloc _ _ _ hk))
  clear hs
  go_enter Try.func41, Try.ntmps41
  go_wp2_with fail
  refine (ckx_marshal (m := w.heap.size) _ (heap_alloc_new _ _) HS.out hl).mono ?_
  rintro e w1 ⟨v, rfl, hown, hbel⟩
  have HO := Lib.hid hown
  have HB := Lib.hid hbel
  clear hown hbel
  go_wp2_with fail
  go_ret2
  exact ⟨v, rfl, ownsRow_mono HO.out (by simp), ((Below.refl _ w).alloc (Nat.le_refl _) _).trans (HB.out.mono (by simp))⟩

set_option maxRecDepth 100000 in
set_option maxHeartbeats 400000 in
theorem ckx_impl {s : List UInt8} {u : Value} (w : World) (hs : SrcB w w.heap.size u s) (hl : s.length ≤ 2147483647) :
    Calls Try.prog 16 #[u] w fun e w' => ∃ v, e = .returned (.tuple #[v, .bool true]) ∧ w'.ownsRow w.heap.size 5 1 v (s.length + 4) ((en 1 16 ++ en 3 s.length ++ s).map by8) ∧ Below w.heap.size w w' := by
  have HS := Lib.hid hs
  clear hs
  go_enter Try.func16, Try.ntmps16
  go_wp2_with fail
  refine (ckx_tls w HS.out hl).mono ?_
  rintro e w1 ⟨v, rfl, hown, hbel⟩
  have HO := Lib.hid hown
  have HB := Lib.hid hbel
  clear hown hbel
  go_wp2_with fail
  go_quiet (fail)
  go_wp2_with fail
  go_ret2
  exact ⟨v, rfl, HO.out, Below_drewN HB.out nq⟩

end Go.Proofs.Ytopcljikkdlffaa
namespace Go.Proofs.Ytopcljikkdlffaa
open Go.RowKit

theorem view_own {w : World} {base n : Nat} {v : Value} {s : List UInt8} (h : w.ownsRow base 5 1 v n (s.map by8)) (hn : s ≠ []) : ∃ C g, View C g v s ∧ w.heap[g]? = some (.cells C 5 (0, 0)) ∧ base ≤ g := by
  have hl : n = s.length := by have := h.1; simp at this; omega
  subst hl
  rcases h.2 with ⟨rfl, h2⟩ | ⟨g, cap, cur, rfl, hg, hh, h1, h2, h3, h4⟩
  · exact (hn (List.length_eq_zero_iff.1 h2)).elim
  · refine ⟨cur, g, ⟨0, cap, rfl, h1, h2, fun i hi => ?_⟩, hh, hg⟩
    have e : (s.map by8)[i]? = some (by8 (s.getD i 0)) := by simp [List.getElem?_map, List.getElem?_eq_getElem hi]
    rw [← h4, Nat.mul_one, List.getElem?_take] at e
    rw [Nat.zero_add, ← Array.getElem?_toList]
    split at e
    · exact e
    · rename_i hni; exact (hni hi).elim

theorem i64_or_nat (a b : Nat) (ha : a < 4294967296) (hb : b < 4294967296) : bits .or .i64 (a : Int) (b : Int) = ((a ||| b : Nat) : Int) := by
  have hx : a ||| b < 2 ^ 32 := Nat.or_lt_two_pow (by omega) (by omega)
  show IntKind.i64.wrap ((BitVec.ofInt 64 (a : Int) ||| BitVec.ofInt 64 (b : Int)).toNat : Int) = _
  rw [BitVec.toNat_or, ofInt_u64 a (by omega), ofInt_u64 b (by omega), IntKind.wrap_i64]
  omega

theorem i64_be3 (b1 b2 b3 : UInt8) : bits BinOp.or IntKind.i64 (bits BinOp.or IntKind.i64 (wrap64 (wrap64 (b1.toNat : Int) * 65536)) (wrap64 (wrap64 (b2.toNat : Int) * 256))) (wrap64 (b3.toNat : Int)) = ((be [b1, b2, b3] : Nat) : Int) := by
  have h1 := b1.toNat_lt
  have h2 := b2.toNat_lt
  have h3 := b3.toNat_lt
  have e1 : wrap64 (wrap64 (b1.toNat : Int) * 65536) = ((b1.toNat * 65536 : Nat) : Int) := by unfold wrap64; omega
  have e2 : wrap64 (wrap64 (b2.toNat : Int) * 256) = ((b2.toNat * 256 : Nat) : Int) := by unfold wrap64; omega
  have e3 : wrap64 (b3.toNat : Int) = ((b3.toNat : Nat) : Int) := by unfold wrap64; omega
  rw [e1, e2, e3, i64_or_nat _ _ (by omega) (by omega), or_mul _ b1.toNat 16 65536 (by decide) (by omega)]
  rw [show b1.toNat * 65536 + b2.toNat * 256 = (b1.toNat * 256 + b2.toNat) * 256 by omega, i64_or_nat _ _ (by omega) (by omega), or_mul _ _ 8 256 (by decide) (by omega)]
  simp [be]

theorem view_src {w : World} {C : Array Value} {g : Nat} {v : Value} {s : List UInt8} {T : TypeId} {fr : Nat × Nat} (h : View C g v s) (hh : w.heap[g]? = some (.cells C T fr)) : SrcB w w.heap.size v s := by
  obtain ⟨off, cap, rfl, h1, h2, h3⟩ := h
  refine .inr ⟨_, _, rfl, fun _ => lt_of_heap hh, fun j u hu => ?_⟩
  have hj : j < s.length := by have := (List.getElem?_eq_some_iff.1 hu).1; simpa using this
  rw [add_plain, cell_of_heap hh, h3 j hj]
  simp [List.getElem?_map, List.getElem?_eq_getElem hj] at hu
  simp [hj, ← hu]

set_option maxRecDepth 100000 in
set_option maxHeartbeats 400000 in
theorem sky_unmarshal {C : Array Value} {m g : Nat} {v : Value} {bs : List UInt8} (w : World) (hm : w.heap[m]? = some (.cells #[.slice none 0 0] 114 (0, 0))) (hV : View C g v bs) (hl : 4 ≤ bs.length) :
    Calls Try.prog 75 #[.pointer (some ⟨m, 0, none⟩), v] w fun e w' => ∃ v', e = .returned (.bool true) ∧ w' = w.setCell ⟨m, 0, none⟩ v' ∧ View C g v' (bs.drop 4) := by
  obtain ⟨off, cap, rfl, hc, hm2, hcell⟩ := hV
  have f0 : w.cell? ⟨m, 0, none⟩ = some (.slice none 0 0) := by rw [cell_of_heap hm]; rfl
  have hfz : w.frozen? ⟨m, 0, none⟩ = false := frozen_of_heap hm
  have V1 := Lib.hid (View.drop (db := g) 4 hl hc hm2 hcell)
  have V2 : Hid (4 = bs.length → View C g (.slice (some ⟨g, off, none⟩) 0 0) (bs.drop 4)) := fun h => View.dropAll 4 h
  have hm' : cap ≤ 9223372036854775807 := hm2
  clear hcell hm hm2
  by_cases h4 : 4 = cap
  · go_enter Try.func75, Try.ntmps75
    go_wp2
    go_ret
    exact ⟨_, rfl, rfl, V2.out (by omega)⟩
  · go_enter Try.func75, Try.ntmps75
    go_wp2
    go_ret
    exact ⟨_, rfl, rfl, V1.out⟩

set_option maxRecDepth 100000 in
set_option maxHeartbeats 400000 in
theorem sky_tls {C : Array Value} {g : Nat} {v : Value} {bs : List UInt8} (w : World) (hV : View C g v bs) (hl : 4 ≤ bs.length) :
    Calls Try.prog 39 #[v] w fun e w' => ∃ v', e = .returned (.tuple #[v', .bool true]) ∧ View C g v' (bs.drop 4) ∧ Below w.heap.size w w' := by
  have HV := Lib.hid hV
  clear hV
  go_enter Try.func39, Try.ntmps39
  go_wp2_with fail
  refine (sky_unmarshal (m := w.heap.size) _ (heap_alloc_new _ _) HV.out hl).mono ?_
  rintro e w1 ⟨v', rfl, rfl, hv⟩
  have HV1 := Lib.hid hv
  obtain ⟨off, cap, rfl, _, _, _⟩ := hv
  go_wp2_with fail
  go_ret2
  exact ⟨_, rfl, by have h := HV1.out; simpa using h, (Below.refl _ w).alloc (Nat.le_refl _) _⟩

set_option maxRecDepth 100000 in
set_option maxHeartbeats 400000 in
theorem sky_impl {C : Array Value} {g : Nat} {v : Value} {bs : List UInt8} (w : World) (hV : View C g v bs) (hl : 4 ≤ bs.length) :
    Calls Try.prog 14 #[v] w fun e w' => ∃ v', e = .returned (.tuple #[v', .bool true]) ∧ View C g v' (bs.drop 4) ∧ Below w.heap.size w w' := by
  have HV := Lib.hid hV
  clear hV
  go_enter Try.func14, Try.ntmps14
  go_wp2_with fail
  refine (sky_tls w HV.out hl).mono ?_
  rintro e w1 ⟨v', rfl, hv, hb⟩
  have HV1 := Lib.hid hv
  have HB := Lib.hid hb
  clear hv hb
  go_wp2_with fail
  go_ret2
  exact ⟨_, rfl, HV1.out, HB.out⟩

set_option maxRecDepth 100000 in
set_option maxHeartbeats 400000 in
theorem cky_unmarshal {C : Array Value} {T : TypeId} {fr : Nat × Nat} {m g : Nat} {v : Value} {bs : List UInt8} (w : World) (hm : w.heap[m]? = some (.cells #[.slice none 0 0] 118 (0, 0))) (hg : w.heap[g]? = some (.cells C T fr)) (hV : View C g v bs) (hl : 4 ≤ bs.length) (hn : be ((bs.drop 1).take 3) + 4 = bs.length) :
    Calls Try.prog 77 #[.pointer (some ⟨m, 0, none⟩), v] w fun e w' => ∃ v' n, e = .returned (.bool true) ∧ w' = (w.setCell ⟨m, 0, none⟩ v').drewN n ∧ View C g v' (bs.drop 4) := by
  obtain ⟨off, cap, rfl, hc, hm2, hcell⟩ := hV
  have f0 : w.cell? ⟨m, 0, none⟩ = some (.slice none 0 0) := by rw [cell_of_heap hm]; rfl
  have hfz : w.frozen? ⟨m, 0, none⟩ = false := frozen_of_heap hm
  have V1 := Lib.hid (View.drop (db := g) 4 hl hc hm2 hcell)
  have V2 : Hid (4 = bs.length → View C g (.slice (some ⟨g, off, none⟩) 0 0) (bs.drop 4)) := fun h => View.dropAll 4 h
  obtain ⟨b0, b1, b2, b3, r, rfl⟩ : ∃ b0 b1 b2 b3 r, bs = b0 :: b1 :: b2 :: b3 :: r := by
    match bs, hl with
    | b0 :: b1 :: b2 :: b3 :: r, _ => exact ⟨_, _, _, _, _, rfl⟩
  have g1 : w.cell? ⟨g, off + 1, none⟩ = some (by8 b1) := by rw [cell_of_heap hg, hcell 1 (by simp)]; rfl
  have g2 : w.cell? ⟨g, off + 2, none⟩ = some (by8 b2) := by rw [cell_of_heap hg, hcell 2 (by simp)]; rfl
  have g3 : w.cell? ⟨g, off + 3, none⟩ = some (by8 b3) := by rw [cell_of_heap hg, hcell 3 (by simp)]; rfl
  have hm' : cap ≤ 9223372036854775807 := hm2
  have hor := i64_be3 b1 b2 b3
  have hn2 : ((be [b1, b2, b3] : Nat) : Int) = (r.length : Int) := by
    have h : be [b1, b2, b3] + 4 = (b0 :: b1 :: b2 :: b3 :: r).length := hn
    simp only [List.length_cons] at h
    omega
  rw [hn2] at hor
  have HOR := Lib.hid hor
  have hsub : ((r.length : Int) != wrap64 ((r.length : Int) + 1 + 1 + 1 + 1 - 4)) = false := by
    simp only [List.length_cons] at hc
    unfold maxLen at hm2
    rw [bne_eq_false_iff_eq]
    unfold wrap64
    omega
  clear hcell hm hm2 hg hor hn2 hn
  by_cases h4 : 4 = cap
  · go_enter Try.func77, Try.ntmps77
    go_wp2_with fail
    go_quiet (fail)
    rw [HOR.out]
    go_wp2_with fail
    go_ret
    have hr0 : r.length = 0 := by simp only [List.length_cons] at hc; omega
    exact ⟨_, nq, rfl, rfl, by rw [hr0]; exact V2.out (by simp [hr0])⟩
  · go_enter Try.func77, Try.ntmps77
    go_wp2_with fail
    go_quiet (fail)
    rw [HOR.out]
    go_wp2_with fail
    go_ret
    exact ⟨_, nq, rfl, rfl, V1.out⟩

set_option maxRecDepth 100000 in
set_option maxHeartbeats 400000 in
theorem cky_tls {C : Array Value} {T : TypeId} {fr : Nat × Nat} {g : Nat} {v : Value} {bs : List UInt8} (w : World) (hg : w.heap[g]? = some (.cells C T fr)) (hV : View C g v bs) (hl : 4 ≤ bs.length) (hn : be ((bs.drop 1).take 3) + 4 = bs.length) :
    Calls Try.prog 42 #[v] w fun e w' => ∃ v', e = .returned (.tuple #[v', .bool true]) ∧ View C g v' (bs.drop 4) ∧ Below w.heap.size w w' := by
  have HV := Lib.hid hV
  have HG := Lib.hid hg
  clear hV hg
  go_enter Try.func42, Try.ntmps42
  go_wp2_with fail
  refine (cky_unmarshal (m := w.heap.size) _ (heap_alloc_new _ _) ((Below.heap_alloc _ _ _ (lt_of_heap HG.out)).trans HG.out) HV.out hl hn).mono ?_
  rintro e w1 ⟨v', nq, rfl, rfl, hv⟩
  have HV1 := Lib.hid hv
  obtain ⟨off, cap, rfl, _, _, _⟩ := hv
  go_wp2_with fail
  go_ret2
  exact ⟨_, rfl, by have h := HV1.out; simpa using h, Below_drewN ((Below.refl _ w).alloc (Nat.le_refl _) _) nq⟩

set_option maxRecDepth 100000 in
set_option maxHeartbeats 400000 in
theorem cky_impl {C : Array Value} {T : TypeId} {fr : Nat × Nat} {g : Nat} {v : Value} {bs : List UInt8} (w : World) (hg : w.heap[g]? = some (.cells C T fr)) (hV : View C g v bs) (hl : 4 ≤ bs.length) (hn : be ((bs.drop 1).take 3) + 4 = bs.length) :
    Calls Try.prog 17 #[v] w fun e w' => ∃ v', e = .returned (.tuple #[v', .bool true]) ∧ View C g v' (bs.drop 4) ∧ Below w.heap.size w w' := by
  have HV := Lib.hid hV
  have HG := Lib.hid hg
  clear hV hg
  go_enter Try.func17, Try.ntmps17
  go_wp2_with fail
  refine (cky_tls w HG.out HV.out hl hn).mono ?_
  rintro e w1 ⟨v', rfl, hv, hb⟩
  have HV1 := Lib.hid hv
  have HB := Lib.hid hb
  clear hv hb
  go_wp2_with fail
  go_ret2
  exact ⟨_, rfl, HV1.out, HB.out⟩

end Go.Proofs.Ytopcljikkdlffaa
