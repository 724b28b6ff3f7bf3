/- The reference's writer: a writer within a writer, a message, a plain message. Sameness of bytes, the reference's KeyUpdate, and that the program is alive. ServerKeyExchange and ClientKeyExchange: made and read. ServerKeyExchange and ClientKeyExchange are read. The walks of the two KeyExchange statements. Lists of lists of bytes: the reference's tests of them. A Certificate up to TLS 1.2 as the reference writes it; sameness of lists. A Certificate up to TLS 1.2 is made. A Certificate up to TLS 1.2 is made (whole) and read. A Certificate up to TLS 1.2 is read. A Certificate up to TLS 1.2 is read (whole), and the walk of its statement. The reference's reader: what its methods leave. The reference's reader: parts within a reader. The reference's reader: vectors. cryptobyte.String's readers over blocks of one cell. A map of the numbers of extensions that were seen. No statement of the seat is proved here. -/
import Derived.Test.YtopcljikkdlffaaGreatX03
import Derived.Test.YtopcljikkdlffaaGreatX04
import Derived.Laws.IdiomStrings
import Derived.Laws.OwnMore
import Derived.Test.YtopcljikkdlffaaGreatX02
import Derived.Maps.OwnOps
import Derived.Maps.OwnSet
namespace Go.Proofs.YtopcljikkdlffaaGreat
open Go.RowKit

theorem WAt.alloc {w : World} {base c : Nat} {bad : Bool} {bs : List UInt8} (h : WAt w base c bad bs) (o : Obj) : WAt (w.alloc o) base c bad bs := by
  obtain ⟨v, hh, hown, hb⟩ := h
  exact ⟨v, (Below.heap_alloc _ _ _ (lt_of_heap hh)).trans hh, hown.alloc _, by simp; omega⟩

theorem WAt.setBad {w : World} {base c : Nat} {bad b : Bool} {bs : List UInt8} (h : WAt w base c bad bs) : WAt (w.setCell ⟨c, 1, none⟩ (.bool b)) base c b bs := by
  obtain ⟨v, hh, hown, hb⟩ := h
  exact ⟨v, (heap_set_same hh).trans rfl, ownsRow_set hown hh (by decide), by simpa [World.setCell] using hb⟩

set_option maxRecDepth 100000 in
set_option maxHeartbeats 1000000 in
theorem winner_ok {base c : Nat} {bad xb : Bool} {bs s : List UInt8} {u : Value} (k : Nat) (w : World) (hk : k = 1 ∨ k = 2 ∨ k = 3) (hW : WAt w base c bad bs) (hc : base ≤ c) (hs : SrcB w base u s) (hs2 : s.length ≤ 4294967296) (hl : bs.length + s.length + 4 ≤ 70368744177664) :
    Calls Tryz.prog 40 #[.pointer (some ⟨c, 0, none⟩), .int .i64 k, .agg #[u, .bool xb]] w fun e w' => e = .returned (.tuple #[]) ∧ WAt w' base c ((bad || xb) || decide (256 ^ k ≤ s.length)) (bs ++ en k s.length ++ s) ∧ Fr base c w w' := by
  obtain ⟨ad0, cap0, rfl⟩ := hs.len
  have HW := Lib.hid hW
  have HS := Lib.hid hs
  obtain ⟨v, hh, hown, hb⟩ := hW
  have hlt := lt_of_heap hh
  have hne : c ≠ w.heap.size := by omega
  have f1 : w.cell? ⟨c, 1, none⟩ = some (.bool bad) := by rw [cell_of_heap hh]; rfl
  have hfz : w.frozen? ⟨c, 1, none⟩ = false := frozen_of_heap hh
  clear hs hown hh
  go_enter Tryz.func40, Tryz.ntmps40
  cases bad <;> go_wp2_with fail
  all_goals
    refine (wvec_ok k _ hk (HW.out.setBad.alloc _) hc (HS.out.fr (((Fr.refl base c w).setCell 1 _).alloc _) hc hb) hs2 hl).mono ?_
    rintro e w1 ⟨rfl, hW1, hF1⟩
    have HW1 := Lib.hid hW1
    have HF1 := Lib.hid hF1
    clear hW1 hF1
    go_wp2_with fail
    go_end0
    exact ⟨rfl, by simpa using HW1.out, (((Fr.refl base c w).setCell 1 _).alloc _).trans HF1.out⟩

/-- A writer that has just been laid. -/
theorem wat_new (w : World) {base : Nat} (hb : base ≤ w.heap.size) : WAt (w.alloc (.cells #[.slice none 0 0, .bool false] 63)) base w.heap.size false [] :=
  ⟨_, heap_alloc_new _ _, World.ownsRow_nil _ _ _ _, by simp; omega⟩

set_option maxRecDepth 100000 in
set_option maxHeartbeats 1000000 in
/-- A message: its number, the length in three bytes, the body; and whether it is short enough. -/
theorem message_ok {xb : Bool} {s : List UInt8} {u : Value} (kind : Nat) (w : World) (hkind : kind < 256) (hs : SrcB w w.heap.size u s) (hs2 : s.length ≤ 4294967296) :
    Calls Tryz.prog 20 #[.int .i64 kind, .agg #[u, .bool xb]] w fun e w' => ∃ v, e = .returned (.tuple #[v, .bool (!(xb || decide (256 ^ 3 ≤ s.length)))]) ∧
      w'.ownsRow w.heap.size 5 1 v (s.length + 4) ((en 1 kind ++ en 3 s.length ++ s).map by8) ∧ Below w.heap.size w w' := by
  obtain ⟨ad0, cap0, rfl⟩ := hs.len
  have HS := Lib.hid hs
  clear hs
  go_enter Tryz.func20, Tryz.ntmps20
  go_wp2_with fail
  have HW0 := Lib.hid (wat_new (w.alloc (.cells #[.slice ad0 s.length cap0, .bool xb] 63)) (base := w.heap.size) (by simp))
  rw [World.size_alloc] at HW0
  have HS0 := Lib.hid (HS.out.below (((Below.refl _ w).alloc (Nat.le_refl _) (.cells #[.slice ad0 s.length cap0, .bool xb] 63)).alloc (by simp) (.cells #[.slice none 0 0, .bool false] 63)))
  refine (wnum_ok (base := w.heap.size) _ _ _ (by omega) (by omega) HW0.out (by simp)).mono ?_
  rintro e w1 ⟨rfl, hW1, hF1⟩
  have c1 : w1.heap[w.heap.size]? = some (.cells #[.slice ad0 s.length cap0, .bool xb] 63 (0, 0)) := by
    rw [hF1.keep _ (by simp; omega) (by omega) (.inr ?_)]
    · exact (Below.heap_alloc _ _ _ (by simp)).trans (heap_alloc_new _ _)
    · rintro ⟨cs, fr, e⟩
      rw [(Below.heap_alloc _ _ _ (by simp)).trans (heap_alloc_new _ _)] at e
      simp at e
  have d0 : w1.cell? ⟨w.heap.size, 0, none⟩ = some (.slice ad0 s.length cap0) := by rw [cell_of_heap c1]; rfl
  have d1 : w1.cell? ⟨w.heap.size, 1, none⟩ = some (.bool xb) := by rw [cell_of_heap c1]; rfl
  have hsz := hF1.size
  simp only [World.size_alloc] at hsz
  have HS1 := Lib.hid (HS0.out.fr hF1 (by omega) (by simp; omega))
  have HW1 := Lib.hid hW1
  have HF1 := Lib.hid hF1
  clear hW1 hF1 c1
  go_wp2_with fail
  refine (winner_ok (base := w.heap.size) 3 _ (.inr (.inr rfl)) HW1.out (by omega) HS1.out hs2 (by simp [en_length]; omega)).mono ?_
  rintro e w2 ⟨rfl, hW2, hF2⟩
  simp only [Bool.false_or, List.nil_append, Int.toNat_natCast, show (1 : Int).toNat = 1 from rfl] at hW2
  obtain ⟨v, hh, hown, hb⟩ := hW2
  have g0 : w2.cell? ⟨w.heap.size + 1, 0, none⟩ = some v := by rw [cell_of_heap hh]; rfl
  have g1 : w2.cell? ⟨w.heap.size + 1, 1, none⟩ = some (.bool (xb || decide (256 ^ 3 ≤ s.length))) := by rw [cell_of_heap hh]; rfl
  have HO := Lib.hid hown
  have HB : Below w.heap.size w w2 := (((Below.refl _ w).alloc (Nat.le_refl _) _).alloc (by simp) _).trans (((HF1.out.trans hF2)).below (by simp; omega) (by omega))
  have HB := Lib.hid HB
  obtain ⟨bad, hbad⟩ : ∃ b, b = (xb || decide (256 ^ 3 ≤ s.length)) := ⟨_, rfl⟩
  rw [← hbad] at g1
  have HBD := Lib.hid hbad
  clear hbad
  clear hh hown hF2
  go_wp2_with fail
  go_quiet (fail)
  go_wp2_with fail
  go_ret2
  refine ⟨v, by rw [← HBD.out]; rfl, ?_, Below_drewN HB.out nq⟩
  have h := HO.out
  have e1 : (en 1 kind ++ en 3 s.length ++ s).length = s.length + 4 := by simp [en_length]; omega
  rw [← e1]
  exact h

theorem results_cell1 {fn : Func} {p : Tmp} {ty : TypeId} (h : fn.results = #[.cell p ty]) (tmps : Array Value) (P : Program) (w : World) :
    (results fn tmps).run P w = ((asAddr (tmps.getD p undef)).run P w).andThen fun a w₁ => (loadVar ty a).run P w₁ := by
  simp only [results, h]
  simp [Sem.run_bind, Result.andThen]

end Go.Proofs.YtopcljikkdlffaaGreat
namespace Go.Proofs.YtopcljikkdlffaaGreat
open Go.RowKit

theorem conv_ok {w : World} {v : Value} {s : List UInt8} (h : Src w v s) : (convert 22 9 v).run Tryz.prog w = .ok (.string ⟨s.toArray⟩) w := by
  rcases h with ⟨rfl, rfl⟩ | ⟨ad, cap, rfl, hc⟩
  · rw [run_convert_bytes_string w _ _ 5 none 0 0 Tryz.underlying22 Tryz.underlying5 Tryz.underlying9]
    simp [Conv.bytesToString, Sem.run_pure]
    rfl
  · refine run_convert_bytes_back w _ _ 5 ad cap s Tryz.underlying22 Tryz.underlying5 Tryz.underlying9 fun j hj => hc j _ ?_
    simp [List.getElem?_map, List.getElem?_eq_getElem hj, by8]

set_option maxRecDepth 100000 in
set_option maxHeartbeats 400000 in
theorem same_ok {s t : List UInt8} {u v : Value} (w : World) (hs : Src w u s) (ht : Src w v t) :
    Calls Tryz.prog 13 #[u, v] w fun e w' => e = .returned (.bool (decide (s = t))) ∧ w' = w := by
  have h1 := conv_ok hs
  have h2 := conv_ok ht
  go_enter Tryz.func13, Tryz.ntmps13
  go_wp2_with fail
  go_ret
  refine ⟨?_, rfl⟩
  simp only [Ending.returned.injEq]
  simp
  rw [Bool.eq_iff_iff]
  simp

set_option maxRecDepth 100000 in
set_option maxHeartbeats 400000 in
theorem Same_ok {s t : List UInt8} {u v : Value} (w : World) (hs : Src w u s) (ht : Src w v t) :
    Calls Tryz.prog 10 #[u, v] w fun e w' => e = .returned (.bool (decide (s = t))) ∧ w' = w := by
  go_enter Tryz.func10, Tryz.ntmps10
  go_wp2_with fail
  refine (same_ok w hs ht).mono ?_
  rintro e w1 ⟨rfl, rfl⟩
  go_wp2_with fail
  go_ret
  exact ⟨rfl, rfl⟩

set_option maxRecDepth 100000 in
set_option maxHeartbeats 1000000 in
theorem number_ok (k n : Nat) (w : World) (hk : k ≤ 4) (hn : n ≤ 4294967296) :
    Calls Tryz.prog 21 #[.int .i64 k, .int .i64 n] w fun e w' => ∃ v, e = .returned (.agg #[v, .bool false]) ∧ w'.ownsRow w.heap.size 5 1 v k ((en k n).map by8) ∧ Below w.heap.size w w' := by
  go_enter Tryz.func21, Tryz.ntmps21
  go_wp2_with fail
  have HW0 := Lib.hid (wat_new (w.alloc (.cells #[.slice none 0 0, .bool false] 63)) (base := w.heap.size) (by simp))
  rw [World.size_alloc] at HW0
  refine (wnum_ok (base := w.heap.size) _ _ _ (by omega) (by omega) HW0.out (by simp)).mono ?_
  rintro e w1 ⟨rfl, hW1, hF1⟩
  have c1 : w1.heap[w.heap.size]? = some (.cells #[.slice none 0 0, .bool false] 63 (0, 0)) := by
    rw [hF1.keep _ (by simp; omega) (by omega) (.inr ?_)]
    · exact (Below.heap_alloc _ _ _ (by simp)).trans (heap_alloc_new _ _)
    · rintro ⟨cs, fr, e⟩
      rw [(Below.heap_alloc _ _ _ (by simp)).trans (heap_alloc_new _ _)] at e
      simp at e
  rw [Int.toNat_natCast, Int.toNat_natCast, List.nil_append] at hW1
  obtain ⟨v, hh, hown, hb⟩ := hW1
  rw [en_length] at hown
  obtain ⟨ao, cap, rfl⟩ := row_slice hown
  have g0 : w1.cell? ⟨w.heap.size + 1, 0, none⟩ = some (.slice ao k cap) := by rw [cell_of_heap hh]; rfl
  have g1 : w1.cell? ⟨w.heap.size + 1, 1, none⟩ = some (.bool false) := by rw [cell_of_heap hh]; rfl
  have d0 : w1.cell? ⟨w.heap.size, 0, none⟩ = some (.slice none 0 0) := by rw [cell_of_heap c1]; rfl
  have d1 : w1.cell? ⟨w.heap.size, 1, none⟩ = some (.bool false) := by rw [cell_of_heap c1]; rfl
  have hfz : ∀ o, w1.frozen? ⟨w.heap.size, o, none⟩ = false := fun o => frozen_of_heap c1
  have HO := Lib.hid hown
  have HC := Lib.hid c1
  have HB : Below w.heap.size w w1 := (((Below.refl _ w).alloc (Nat.le_refl _) _).alloc (by simp) _).trans (hF1.below (by simp; omega) (by omega))
  have HB := Lib.hid HB
  clear hh hown hF1 c1
  go_wp2_with fail
  (try simp only [Exit.inBlock, Exit.then])
  have hc2 : ∀ u, (w1.setCell ⟨w.heap.size, 0, none⟩ u).heap[w.heap.size]? = some (.cells #[u, .bool false] 63 (0, 0)) := fun u => (heap_set_same HC.out).trans rfl
  refine bodyPost_ret (v := .agg #[.slice ao k cap, .bool false]) ?_ rfl ⟨_, rfl, ownsRow_set (ownsRow_set HO.out HC.out (by decide)) (hc2 _) (by decide), (HB.out.setCell (Nat.le_refl _) _).setCell (Nat.le_refl _) _⟩
  rw [results_cell1 rfl]
  go_simp

set_option maxRecDepth 100000 in
set_option maxHeartbeats 400000 in
theorem writeUpdate_ok (w : World) :
    Calls Tryz.prog 11 #[.bool true] w fun e w' => ∃ v, e = .returned v ∧ w'.ownsRow w.heap.size 5 1 v 5 ([24, 0, 0, 1, 1].map by8) ∧ Below w.heap.size w w' := by
  go_enter Tryz.func11, Tryz.ntmps11
  go_wp2_with fail
  refine (number_ok 1 1 w (by omega) (by omega)).mono ?_
  rintro e w1 ⟨v, rfl, hown, hB⟩
  have HS := Lib.hid (src_own hown (Nat.le_refl _))
  obtain ⟨ao, cap, rfl⟩ := row_slice hown
  have HB := Lib.hid hB
  clear hown hB
  go_wp2_with fail
  refine (message_ok 24 w1 (by omega) HS.out (by simp [en_length])).mono ?_
  rintro e w2 ⟨v2, rfl, hown, hB2⟩
  have HO := Lib.hid (ownsRow_mono hown HB.out.size)
  have HB2 := Lib.hid (HB.out.trans (hB2.mono HB.out.size))
  clear hown hB2
  go_wp2_with fail
  go_ret
  exact ⟨v2, rfl, HO.out, HB2.out⟩

set_option maxRecDepth 100000 in
set_option maxHeartbeats 400000 in
theorem alive_ok (w : World) : Calls Tryz.prog 5 #[] w fun e w' => e = .returned (.bool true) ∧ Below w.heap.size w w' := by
  go_enter Tryz.func5, Tryz.ntmps5
  go_wp2_with fail
  refine (ku_impl w).mono ?_
  rintro e w1 ⟨v, rfl, hown, hB⟩
  have HS := Lib.hid (src_own (base := w1.heap.size) hown (Nat.le_refl _))
  have HB := Lib.hid hB
  clear hown hB
  go_wp2_with fail
  refine (writeUpdate_ok w1).mono ?_
  rintro e w2 ⟨v2, rfl, hown, hB2⟩
  have HS1 := Lib.hid (HS.out.below hB2)
  have HS2 := Lib.hid (src_own (base := w2.heap.size) hown (Nat.le_refl _))
  have HB2 := Lib.hid (HB.out.trans (hB2.mono HB.out.size))
  clear hown hB2
  go_wp2_with fail
  refine (Same_ok w2 HS1.out.src HS2.out.src).mono ?_
  rintro e w3 ⟨rfl, rfl⟩
  go_wp2_with fail
  go_ret
  exact ⟨rfl, HB2.out⟩

end Go.Proofs.YtopcljikkdlffaaGreat
namespace Go.Proofs.YtopcljikkdlffaaGreat
open Go.RowKit

/-- A row of bytes is made. -/
theorem make_row (w : World) (n : Nat) (h : n ≤ 281474976710656) : (Instr.makeSlice 22 (.int .i64 n) (.int .i64 n)).run Tryz.prog w = .ok (.slice (some ⟨w.heap.size, 0, none⟩) n n) (w.alloc (.cells (List.replicate n (Value.int .u8 0)).toArray 5)) := by
  obtain ⟨i0, hi, hz0, hz1, hz2⟩ := info_parts Tryz.info5
  rw [run_make w _ 5 i0 _ Tryz.underlying22 hi hz0 .i64 .i64 n n (by omega) (by omega) (by rw [hz2]; omega) (by omega)]
  have e : madeCells (Value.int IntKind.u8 0).cells ((n : Int).toNat * i0.size) = (List.replicate n (Value.int .u8 0)).toArray := by
    rw [hz1, Int.toNat_natCast, Nat.mul_one]
    refine Array.ext (by simp [madeCells]) fun i h1 h2 => ?_
    simp [madeCells, Value.cells, Nat.mod_one]
  rw [e, Int.toNat_natCast]

end Go.Proofs.YtopcljikkdlffaaGreat
namespace Go.Proofs.YtopcljikkdlffaaGreat
open Go.RowKit

theorem view_src {w : World} {C : Array Value} {g : Nat} {v : Value} {s : List UInt8} {T : TypeId} {fr : Nat × Nat} (h : View C g v s) (hh : w.heap[g]? = some (.cells C T fr)) : SrcB w w.heap.size v s := by
  obtain ⟨off, cap, rfl, h1, h2, h3⟩ := h
  refine .inr ⟨_, _, rfl, fun _ => lt_of_heap hh, fun j u hu => ?_⟩
  have hj : j < s.length := by have := (List.getElem?_eq_some_iff.1 hu).1; simpa using this
  rw [add_plain, cell_of_heap hh, h3 j hj]
  simp [List.getElem?_map, List.getElem?_eq_getElem hj] at hu
  simp [hj, ← hu]

end Go.Proofs.YtopcljikkdlffaaGreat
namespace Go.Proofs.YtopcljikkdlffaaGreat
open Go.RowKit

/-- A slice of bytes that came in shows bytes. -/
theorem row_src {w : World} {a : Option Addr} {len cap : Nat} {zs : List Int}
    (h : (a = none ∧ len = 0 ∧ cap = 0 ∧ zs = []) ∨ ∃ x, a = some x ∧ len ≤ cap ∧ cap ≤ maxLen ∧ zs.length = cap ∧ (∀ i, i < zs.length → w.cell? (x.add i) = some (.int .u8 (zs.getD i 0))) ∧ ∀ n ∈ zs, (Lit.int .u8 n).wf = true) :
    ∃ s, s.length = len ∧ SrcB w w.heap.size (.slice a len cap) s := by
  rcases h with ⟨rfl, rfl, rfl, rfl⟩ | ⟨x, rfl, hl, hm, hz, hc, hw⟩
  · exact ⟨[], rfl, .inl ⟨rfl, rfl⟩⟩
  · have hlen : ((zs.take len).map fun z => UInt8.ofNat z.toNat).length = len := by simp; omega
    refine ⟨(zs.take len).map fun z => UInt8.ofNat z.toNat, hlen, .inr ⟨x, cap, by rw [hlen], ?_, ?_⟩⟩
    · intro hne
      have hpos : 0 < zs.length := by
        rcases Nat.eq_zero_or_pos zs.length with h | h
        · have : zs = [] := List.length_eq_zero_iff.1 h
          subst this; simp at hne
        · exact h
      have h0 := hc 0 hpos
      have : (x.add 0).block < w.heap.size := by
        unfold World.cell? at h0
        rcases Nat.lt_or_ge (x.add 0).block w.heap.size with h | h
        · exact h
        · rw [Array.getElem?_eq_none h] at h0; cases h0
      rwa [add_block] at this
    · intro j u hu
      have hj : j < len := by
        have := (List.getElem?_eq_some_iff.1 hu).1
        simp at this
        omega
      have hjz : j < zs.length := by omega
      rw [hc j hjz]
      have hwf := hw zs[j] (List.getElem_mem hjz)
      have hr : 0 ≤ zs[j] ∧ zs[j] < 256 := by
        simp [Lit.wf, IntKind.min, IntKind.max, IntKind.signed, IntKind.bits] at hwf
        omega
      simp only [List.map_map, List.map_take] at hu
      rw [List.getElem?_take_of_lt hj, List.getElem?_map, List.getElem?_eq_getElem hjz] at hu
      simp only [Option.map_some, Function.comp, Option.some.injEq] at hu
      rw [← hu, by8_int (k := zs[j].toNat) (n := zs[j]) (by omega)]
      simp [hjz]

theorem hbe (s : List UInt8) (h : s.length < 16777216) : be (((en 1 16 ++ en 3 s.length ++ s).drop 1).take 3) + 4 = (en 1 16 ++ en 3 s.length ++ s).length := by
  have e : ((en 1 16 ++ en 3 s.length ++ s).drop 1).take 3 = en 3 s.length := by simp [en1, en3]
  rw [e, be_en, Nat.mod_eq_of_lt (by omega)]
  simp [en_length]
  omega

end Go.Proofs.YtopcljikkdlffaaGreat
namespace Go.Proofs.YtopcljikkdlffaaGreat
open Go.RowKit

/-- A slice of slices of bytes that shows the lists L and lies below base. -/
def LstB (w : World) (base : Nat) (v : Value) (L : List (List UInt8)) : Prop :=
  (v = .slice none 0 0 ∧ L = []) ∨ ∃ ad cap, v = .slice (some ad) L.length cap ∧ (L ≠ [] → ad.block < base) ∧ ∀ j s, L[j]? = some s → ∃ u, w.cell? (ad.add j) = some u ∧ SrcB w base u s

theorem LstB.keep {w w' : World} {base base' : Nat} {v : Value} {L : List (List UInt8)} (h : LstB w base v L) (hb : base ≤ base') (hk : ∀ k, k < base → w'.heap[k]? = w.heap[k]?) : LstB w' base' v L := by
  rcases h with h | ⟨ad, cap, e, hlt, hc⟩
  · exact .inl h
  · refine .inr ⟨ad, cap, e, fun h => by have := hlt h; omega, fun j s hs => ?_⟩
    obtain ⟨u, hu, hsrc⟩ := hc j s hs
    refine ⟨u, ?_, hsrc.keep hb hk⟩
    rw [← hu]
    exact World.cell?_of_block (by rw [add_block]; exact hk _ (hlt (by rintro rfl; simp at hs)))

theorem LstB.len {w : World} {base : Nat} {v : Value} {L : List (List UInt8)} (h : LstB w base v L) : ∃ ad cap, v = .slice ad L.length cap ∧ (0 < L.length → ∃ x, ad = some x) := by
  rcases h with ⟨rfl, rfl⟩ | ⟨ad, cap, rfl, _⟩
  · exact ⟨none, 0, rfl, fun h => by simp at h⟩
  · exact ⟨some ad, cap, rfl, fun _ => ⟨_, rfl⟩⟩

theorem LstB.at {w : World} {base len cap : Nat} {x : Addr} {L : List (List UInt8)} (h : LstB w base (.slice (some x) len cap) L) {j : Nat} (hj : j < L.length) : ∃ u, w.cell? (x.add j) = some u ∧ SrcB w base u L[j] := by
  rcases h with ⟨h, _⟩ | ⟨ad, cap, e, _, hc⟩
  · cases h
  · simp only [Value.slice.injEq, Option.some.injEq] at e
    obtain ⟨rfl, _, _⟩ := e
    exact hc j _ (List.getElem?_eq_getElem hj)

/-- Vectors one behind the other. -/
def vecs (k : Nat) (L : List (List UInt8)) : List UInt8 := L.flatMap fun s => en k s.length ++ s

theorem vecs_snoc (k : Nat) (L : List (List UInt8)) (s : List UInt8) : vecs k (L ++ [s]) = vecs k L ++ en k s.length ++ s := by simp [vecs]

theorem vecs_le {k : Nat} (L : List (List UInt8)) (j : Nat) : (vecs k (L.take j)).length ≤ (vecs k L).length := by
  have h : vecs k L = vecs k (L.take j) ++ vecs k (L.drop j) := by unfold vecs; rw [← List.flatMap_append, List.take_append_drop]
  rw [h]; simp

end Go.Proofs.YtopcljikkdlffaaGreat
namespace Go.Proofs.YtopcljikkdlffaaGreat
open Go.RowKit

end Go.Proofs.YtopcljikkdlffaaGreat
namespace Go.Proofs.YtopcljikkdlffaaGreat
open Go.RowKit

theorem infoSize8 : (Tryz.prog.info? 5).map (·.size) = some 1 := by kernel_rfl

end Go.Proofs.YtopcljikkdlffaaGreat
namespace Go.Proofs.YtopcljikkdlffaaGreat
open Go.RowKit

end Go.Proofs.YtopcljikkdlffaaGreat
namespace Go.Proofs.YtopcljikkdlffaaGreat
open Go.RowKit

/-- What the reading leaves alone: every block that was there but m. -/
structure Fm (m : Nat) (w w' : World) : Prop where
  os : w'.os = w.os
  tape : w'.tape = w.tape
  output : w'.output = w.output
  size : w.heap.size ≤ w'.heap.size
  keep : ∀ k, k < w.heap.size → k ≠ m → w'.heap[k]? = w.heap[k]?

end Go.Proofs.YtopcljikkdlffaaGreat
namespace Go.Proofs.YtopcljikkdlffaaGreat
open Go.RowKit

end Go.Proofs.YtopcljikkdlffaaGreat
namespace Go.Proofs.YtopcljikkdlffaaGreat
open Go.RowKit

/-- In the row of cells C of block g the slice v shows bs; or v is nil and bs is empty. -/
def VN (C : Array Value) (g : Nat) (v : Value) (bs : List UInt8) : Prop := (v = .slice none 0 0 ∧ bs = []) ∨ View C g v bs

/-- The reader fails. -/
def rfail (k : Nat) (st : Nat × List UInt8) : Nat × List UInt8 := (if st.1 = 0 then k else st.1, [])

/-- A number of k bytes. -/
def rnum (k : Nat) (st : Nat × List UInt8) : Nat × (Nat × List UInt8) := if st.2.length < k then (0, rfail 3 st) else (be (st.2.take k), (st.1, st.2.drop k))

/-- A vector. -/
def rvec (k low high : Nat) (st : Nat × List UInt8) : List UInt8 × (Nat × List UInt8) :=
  if (rnum k st).2.1 ≠ 0 then ([], (rnum k st).2)
  else if (rnum k st).2.2.length < (rnum k st).1 then ([], (3, []))
  else if (rnum k st).1 < low ∨ high < (rnum k st).1 then ((rnum k st).2.2.take (rnum k st).1, (2, []))
  else ((rnum k st).2.2.take (rnum k st).1, (0, (rnum k st).2.2.drop (rnum k st).1))

theorem Fm.refl (m : Nat) (w : World) : Fm m w w := ⟨rfl, rfl, rfl, Nat.le_refl _, fun _ _ _ => rfl⟩
theorem Fm.trans {m : Nat} {a b d : World} (h : Fm m a b) (k : Fm m b d) : Fm m a d :=
  ⟨k.os.trans h.os, k.tape.trans h.tape, k.output.trans h.output, Nat.le_trans h.size k.size, fun i hi hm => (k.keep i (Nat.lt_of_lt_of_le hi h.size) hm).trans (h.keep i hi hm)⟩
theorem Fm.setCell {m : Nat} {a w : World} (h : Fm m a w) (o : Nat) (u : Value) : Fm m a (w.setCell ⟨m, o, none⟩ u) :=
  h.trans ⟨rfl, rfl, rfl, by simp [World.setCell], fun _ _ hc => Below.heap_setCell _ _ _ _ hc⟩
theorem Fm.alloc {m : Nat} {a w : World} (h : Fm m a w) (o : Obj) : Fm m a (w.alloc o) :=
  h.trans ⟨rfl, rfl, rfl, by simp, fun _ hk _ => Below.heap_alloc _ _ _ hk⟩

theorem VN.len {C : Array Value} {g : Nat} {v : Value} {bs : List UInt8} (h : VN C g v bs) : ∃ a cap, v = .slice a bs.length cap ∧ bs.length ≤ cap ∧ cap ≤ maxLen := by
  rcases h with ⟨rfl, rfl⟩ | ⟨off, cap, rfl, h1, h2, _⟩
  · exact ⟨none, 0, rfl, Nat.le_refl _, Nat.zero_le _⟩
  · exact ⟨_, cap, rfl, h1, h2⟩

theorem vn_src {w : World} {C : Array Value} {g : Nat} {v : Value} {s : List UInt8} {T : TypeId} {fr : Nat × Nat} (h : VN C g v s) (hh : w.heap[g]? = some (.cells C T fr)) : SrcB w w.heap.size v s := by
  rcases h with h | h
  · exact .inl h
  · exact view_src h hh

end Go.Proofs.YtopcljikkdlffaaGreat
namespace Go.Proofs.YtopcljikkdlffaaGreat
open Go.RowKit

/-- What is left alone: every block that was there but those listed. -/
structure Fs (l : List Nat) (w w' : World) : Prop where
  os : w'.os = w.os
  tape : w'.tape = w.tape
  output : w'.output = w.output
  size : w.heap.size ≤ w'.heap.size
  keep : ∀ k, k < w.heap.size → k ∉ l → w'.heap[k]? = w.heap[k]?

theorem Fs.refl (l : List Nat) (w : World) : Fs l w w := ⟨rfl, rfl, rfl, Nat.le_refl _, fun _ _ _ => rfl⟩
theorem Fs.trans {l : List Nat} {a b d : World} (h : Fs l a b) (k : Fs l b d) : Fs l a d :=
  ⟨k.os.trans h.os, k.tape.trans h.tape, k.output.trans h.output, Nat.le_trans h.size k.size, fun i hi hm => (k.keep i (Nat.lt_of_lt_of_le hi h.size) hm).trans (h.keep i hi hm)⟩
theorem Fs.mono {l l' : List Nat} {a b : World} (h : Fs l a b) (hl : ∀ x ∈ l, x ∈ l') : Fs l' a b := ⟨h.os, h.tape, h.output, h.size, fun k hk hn => h.keep k hk fun hm => hn (hl k hm)⟩
theorem Fm.fs {m : Nat} {l : List Nat} {a b : World} (h : Fm m a b) (hl : m ∈ l) : Fs l a b := ⟨h.os, h.tape, h.output, h.size, fun k hk hn => h.keep k hk fun e => hn (e ▸ hl)⟩
/-- Nothing may be left. -/
def rend (st : Nat × List UInt8) : Nat × List UInt8 := if st.2 = [] then st else rfail 3 st

/-- A part is done. -/
def rdone (st p : Nat × List UInt8) : Nat × List UInt8 := if (rend p).1 = 0 then st else rfail (rend p).1 st

/-- All that is left. -/
def rrest (st : Nat × List UInt8) : List UInt8 × (Nat × List UInt8) := if st.2 = [] then ([], rfail 1 st) else (st.2, (st.1, []))

/-- A part: what was found, and its bytes. -/
def rin (st : Nat × List UInt8) (bx : List UInt8) : Nat × List UInt8 := (st.1, if st.1 = 0 then bx else [])

/-- A list of one protocol name. -/
def rprot (st : Nat × List UInt8) : List UInt8 × (Nat × List UInt8) :=
  ((rvec 1 1 255 (rin (rvec 2 2 65535 st).2 (rvec 2 2 65535 st).1)).1,
    rdone (rvec 2 2 65535 st).2 (if (rvec 1 1 255 (rin (rvec 2 2 65535 st).2 (rvec 2 2 65535 st).1)).2.1 = 0 ∧ (rvec 1 1 255 (rin (rvec 2 2 65535 st).2 (rvec 2 2 65535 st).1)).2.2 ≠ []
      then rfail 1 (rvec 1 1 255 (rin (rvec 2 2 65535 st).2 (rvec 2 2 65535 st).1)).2 else (rvec 1 1 255 (rin (rvec 2 2 65535 st).2 (rvec 2 2 65535 st).1)).2))

end Go.Proofs.YtopcljikkdlffaaGreat
namespace Go.Proofs.YtopcljikkdlffaaGreat
open Go.RowKit

/-- Vectors until nothing is left. -/
def rvecs (k low : Nat) : Nat → Nat × List UInt8 → List (List UInt8) × (Nat × List UInt8)
  | 0, sp => ([], sp)
  | f + 1, sp => if sp.2 = [] then ([], sp) else ((rvec k low (256 ^ k - 1) sp).1 :: (rvecs k low f (rvec k low (256 ^ k - 1) sp).2).1, (rvecs k low f (rvec k low (256 ^ k - 1) sp).2).2)

/-- How much the slice in a cell holds. -/
def cellLen (w : World) (p : Nat) : Nat := match w.cell? ⟨p, 0, none⟩ with | some (.slice _ n _) => n | _ => 0

end Go.Proofs.YtopcljikkdlffaaGreat
namespace Go.Proofs.YtopcljikkdlffaaGreat
open Go.RowKit

theorem heap_past {w : World} {m k dB : Nat} {u : Value} {ob : Option Obj} (h : w.heap[dB]? = ob) (hmd : m ≠ dB) : (w.setCell ⟨m, k, none⟩ u).heap[dB]? = ob :=
  (Below.heap_setCell _ _ _ _ (fun e => hmd e.symm)).trans h
theorem cell_head {w : World} {dB : Nat} {vd : Value} {T : TypeId} {fr : Nat × Nat} (h : w.heap[dB]? = some (.cells #[vd] T fr)) : w.cell? ⟨dB, 0, none⟩ = some vd := by
  rw [cell_of_heap h]; rfl
theorem Fs.drew {l : List Nat} {a b : World} (h : Fs l a b) : Fs l a b.drew := ⟨h.os, h.tape, h.output, h.size, h.keep⟩
theorem Fs.set {l : List Nat} {a w : World} (h : Fs l a w) (m o : Nat) (u : Value) (hm : m ∈ l) : Fs l a (w.setCell ⟨m, o, none⟩ u) :=
  h.trans ⟨rfl, rfl, rfl, by simp [World.setCell], fun k _ hn => Below.heap_setCell _ _ _ _ (fun e => hn (e ▸ hm))⟩
theorem Fs.push {l : List Nat} {a w : World} (h : Fs l a w) (ob : Obj) : Fs l a (w.alloc ob) :=
  h.trans ⟨rfl, rfl, rfl, by simp, fun k hk _ => Below.heap_alloc _ _ _ hk⟩
theorem heap_push {w : World} {k : Nat} {ob x : Obj} (h : w.heap[k]? = some x) : (w.alloc ob).heap[k]? = some x := by
  have hk : k < w.heap.size := (Array.getElem?_eq_some_iff.1 h).1
  exact (Below.heap_alloc _ _ _ hk).trans h

end Go.Proofs.YtopcljikkdlffaaGreat
namespace Go.Proofs.YtopcljikkdlffaaGreat
open Go.RowKit
open Go.Maps (Keyed int_keyed keyOf_int_mk)

/-- Block b is a map of the numbers that were seen. -/
def SeenAt (w : World) (b : Nat) (seen : List Nat) : Prop :=
  ∃ (n : Nat) (D : DataW Unit), w.ownsMap Tryz.prog 23 (plainElem Tryz.prog 4) b n D ∧ n ≤ seen.length ∧
    ∀ t : Nat, t < 65536 → D.atKey (.int .u16 (t : Int)) (.lit (.bool false)) = .lit (.bool (decide (t ∈ seen)))

theorem wf16 {t : Nat} (h : t < 65536) : (Lit.int .u16 (t : Int)).wf = true := by
  simp [Lit.wf, IntKind.min, IntKind.max, IntKind.signed, IntKind.bits]
  omega

set_option maxRecDepth 100000 in
theorem plainElem_bool_inv {H : Type} {v : Value} {z : DataW H × List MemPlace} (h : plainElem Tryz.prog 4 v = some z) : ∃ x, v = .bool x ∧ z = (.lit (.bool x), []) := by
  unfold plainElem at h
  rw [Tryz.underlying4] at h
  cases v <;> simp at h
  exact ⟨_, rfl, h.symm⟩

theorem zero_bool (w : World) : (zeroValue 4).run Tryz.prog w = .ok (.bool false) w := by
  simp [zeroValue, go_sem]
  rfl

theorem seen_new (w : World) : SeenAt (w.alloc (.map #[] 0)) w.heap.size [] :=
  ⟨0, .map [], World.ownsMap_made w _ _ _, Nat.le_refl _, fun t _ => by simp; rfl⟩

theorem seen_look {w : World} {b : Nat} {seen : List Nat} (h : SeenAt w b seen) (t : Nat) (ht : t < 65536) :
    (Instr.lookup 78 (.map (some b)) (.int .u16 (t : Int)) false).run Tryz.prog w = .ok (.bool (decide (t ∈ seen))) w := by
  obtain ⟨n, D, ho, _, hD⟩ := h
  obtain ⟨v, ps, hrun, hv⟩ := ho.lookup (int_keyed Tryz.underlying23) Tryz.underlying78 (z := .bool false) (by
      exact zero_bool w) (plainElem_bool Tryz.underlying4 false) (keyOf_int_mk Tryz.underlying23 (wf16 ht))
  obtain ⟨x, rfl, hx⟩ := plainElem_bool_inv hv
  rw [hD t ht] at hx
  simp only [Prod.mk.injEq, DataW.lit.injEq, Lit.bool.injEq] at hx
  rw [hrun, hx.1]

theorem seen_put {w : World} {b : Nat} {seen : List Nat} (h : SeenAt w b seen) (t : Nat) (ht : t < 65536) (hl : seen.length < 16777216) :
    ∃ w', (Instr.mapUpdate 78 (.map (some b)) (.int .u16 (t : Int)) (.bool true)).run Tryz.prog w = .ok () w' ∧ SeenAt w' b (t :: seen) ∧ Fs [b] w w' := by
  obtain ⟨n, D, ho, hn, hD⟩ := h
  obtain ⟨w', hrun, ho', hg⟩ := ho.update (int_keyed Tryz.underlying23) Tryz.underlying78 (by unfold maxLen; omega) (keyOf_int_mk Tryz.underlying23 (wf16 ht)) (plainElem_bool Tryz.underlying4 true)
  refine ⟨w', hrun, ⟨n + 1, _, ho', by simp; omega, fun t' ht' => ?_⟩, ⟨hg.os, hg.tape, hg.output, hg.size, fun k hk hm => hg.block k hk (fun e => hm (by simpa using e))⟩⟩
  by_cases e : t' = t
  · subst e
    rw [Maps.atKey_put_same ho.isMap (by trivial)]
    simp
  · rw [Maps.atKey_put_other (by simp; omega), hD t' ht']
    simp [e]

theorem SeenAt.fs {w w' : World} {b : Nat} {seen : List Nat} {l : List Nat} (h : SeenAt w b seen) (hf : Fs l w w') (hb : b ∉ l) : SeenAt w' b seen := by
  obtain ⟨n, D, ⟨es, clock, hh, r⟩, r2⟩ := h
  exact ⟨n, D, ⟨es, clock, (hf.keep b (Array.getElem?_eq_some_iff.1 hh).1 hb).trans hh, r⟩, r2⟩

theorem SeenAt.map {w : World} {b : Nat} {seen : List Nat} (h : SeenAt w b seen) : ∃ es k, w.heap[b]? = some (.map es k) := by
  obtain ⟨n, D, ⟨es, clock, hh, r⟩, r2⟩ := h
  exact ⟨es, clock, hh⟩

end Go.Proofs.YtopcljikkdlffaaGreat
