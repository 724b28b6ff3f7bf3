/- The reference's writer: a writer within a writer, a message, a plain message. No statement of the seat is proved here. -/
import Derived.Test.YtopcljikkdlffaaWv
import Derived.Test.YtopcljikkdlffaaKu
namespace Go.Proofs.Ytopcljikkdlffaa
open Go.RowKit

theorem WAt.alloc {w : World} {base c : Nat} {bad : Bool} {bs : List UInt8} (h : WAt w base c bad bs) (o : Obj) : WAt (w.alloc o) base c bad bs := by
  obtain ⟨v, hh, hown, hb⟩ := h
  exact ⟨v, (Below.heap_alloc _ _ _ (lt_of_heap hh)).trans hh, hown.alloc _, by simp; omega⟩

theorem WAt.setBad {w : World} {base c : Nat} {bad b : Bool} {bs : List UInt8} (h : WAt w base c bad bs) : WAt (w.setCell ⟨c, 1, none⟩ (.bool b)) base c b bs := by
  obtain ⟨v, hh, hown, hb⟩ := h
  exact ⟨v, (heap_set_same hh).trans rfl, ownsRow_set hown hh (by decide), by simpa [World.setCell] using hb⟩

set_option maxRecDepth 100000 in
set_option maxHeartbeats 1000000 in
theorem winner_ok {base c : Nat} {bad xb : Bool} {bs s : List UInt8} {u : Value} (k : Nat) (w : World) (hk : k = 1 ∨ k = 2 ∨ k = 3) (hW : WAt w base c bad bs) (hc : base ≤ c) (hs : SrcB w base u s) (hs2 : s.length ≤ 4294967296) (hl : bs.length + s.length + 4 ≤ 70368744177664) :
    Calls Try.prog 71 #[.pointer (some ⟨c, 0, none⟩), .int .i64 k, .agg #[u, .bool xb]] w fun e w' => e = .returned (.tuple #[]) ∧ WAt w' base c ((bad || xb) || decide (256 ^ k ≤ s.length)) (bs ++ en k s.length ++ s) ∧ Fr base c w w' := by
  obtain ⟨ad0, cap0, rfl⟩ := hs.len
  have HW := Lib.hid hW
  have HS := Lib.hid hs
  obtain ⟨v, hh, hown, hb⟩ := hW
  have hlt := lt_of_heap hh
  have hne : c ≠ w.heap.size := by omega
  have f1 : w.cell? ⟨c, 1, none⟩ = some (.bool bad) := by rw [cell_of_heap hh]; rfl
  have hfz : w.frozen? ⟨c, 1, none⟩ = false := frozen_of_heap hh
  clear hs hown hh
  go_enter Try.func71, Try.ntmps71
  cases bad <;> go_wp2_with fail
  all_goals
    refine (wvec_ok k _ hk (HW.out.setBad.alloc _) hc (HS.out.fr (((Fr.refl base c w).setCell 1 _).alloc _) hc hb) hs2 hl).mono ?_
    rintro e w1 ⟨rfl, hW1, hF1⟩
    have HW1 := Lib.hid hW1
    have HF1 := Lib.hid hF1
    clear hW1 hF1
    go_wp2_with fail
    go_end0
    exact ⟨rfl, by simpa using HW1.out, (((Fr.refl base c w).setCell 1 _).alloc _).trans HF1.out⟩

/-- A writer that has just been laid. -/
theorem wat_new (w : World) {base : Nat} (hb : base ≤ w.heap.size) : WAt (w.alloc (.cells #[.slice none 0 0, .bool false] 62)) base w.heap.size false [] :=
  ⟨_, heap_alloc_new _ _, World.ownsRow_nil _ _ _ _, by simp; omega⟩

set_option maxRecDepth 100000 in
set_option maxHeartbeats 1000000 in
/-- A message: its number, the length in three bytes, the body; and whether it is short enough. -/
theorem message_ok {xb : Bool} {s : List UInt8} {u : Value} (kind : Nat) (w : World) (hkind : kind < 256) (hs : SrcB w w.heap.size u s) (hs2 : s.length ≤ 4294967296) :
    Calls Try.prog 34 #[.int .i64 kind, .agg #[u, .bool xb]] w fun e w' => ∃ v, e = .returned (.tuple #[v, .bool (!(xb || decide (256 ^ 3 ≤ s.length)))]) ∧
      w'.ownsRow w.heap.size 5 1 v (s.length + 4) ((en 1 kind ++ en 3 s.length ++ s).map by8) ∧ Below w.heap.size w w' := by
  obtain ⟨ad0, cap0, rfl⟩ := hs.len
  have HS := Lib.hid hs
  clear hs
  go_enter Try.func34, Try.ntmps34
  go_wp2_with fail
  have HW0 := Lib.hid (wat_new (w.alloc (.cells #[.slice ad0 s.length cap0, .bool xb] 62)) (base := w.heap.size) (by simp))
  rw [World.size_alloc] at HW0
  have HS0 := Lib.hid (HS.out.below (((Below.refl _ w).alloc (Nat.le_refl _) (.cells #[.slice ad0 s.length cap0, .bool xb] 62)).alloc (by simp) (.cells #[.slice none 0 0, .bool false] 62)))
  refine (wnum_ok (base := w.heap.size) _ _ _ (by omega) (by omega) HW0.out (by simp)).mono ?_
  rintro e w1 ⟨rfl, hW1, hF1⟩
  have c1 : w1.heap[w.heap.size]? = some (.cells #[.slice ad0 s.length cap0, .bool xb] 62 (0, 0)) := by
    rw [hF1.keep _ (by simp; omega) (by omega) (.inr ?_)]
    · exact (Below.heap_alloc _ _ _ (by simp)).trans (heap_alloc_new _ _)
    · rintro ⟨cs, fr, e⟩
      rw [(Below.heap_alloc _ _ _ (by simp)).trans (heap_alloc_new _ _)] at e
      simp at e
  have d0 : w1.cell? ⟨w.heap.size, 0, none⟩ = some (.slice ad0 s.length cap0) := by rw [cell_of_heap c1]; rfl
  have d1 : w1.cell? ⟨w.heap.size, 1, none⟩ = some (.bool xb) := by rw [cell_of_heap c1]; rfl
  have hsz := hF1.size
  simp only [World.size_alloc] at hsz
  have HS1 := Lib.hid (HS0.out.fr hF1 (by omega) (by simp; omega))
  have HW1 := Lib.hid hW1
  have HF1 := Lib.hid hF1
  clear hW1 hF1 c1
  go_wp2_with fail
  refine (winner_ok (base := w.heap.size) 3 _ (.inr (.inr rfl)) HW1.out (by omega) HS1.out hs2 (by simp [en_length]; omega)).mono ?_
  rintro e w2 ⟨rfl, hW2, hF2⟩
  simp only [Bool.false_or, List.nil_append, Int.toNat_natCast, show (1 : Int).toNat = 1 from rfl] at hW2
  obtain ⟨v, hh, hown, hb⟩ := hW2
  have g0 : w2.cell? ⟨w.heap.size + 1, 0, none⟩ = some v := by rw [cell_of_heap hh]; rfl
  have g1 : w2.cell? ⟨w.heap.size + 1, 1, none⟩ = some (.bool (xb || decide (256 ^ 3 ≤ s.length))) := by rw [cell_of_heap hh]; rfl
  have HO := Lib.hid hown
  have HB : Below w.heap.size w w2 := (((Below.refl _ w).alloc (Nat.le_refl _) _).alloc (by simp) _).trans (((HF1.out.trans hF2)).below (by simp; omega) (by omega))
  have HB := Lib.hid HB
  obtain ⟨bad, hbad⟩ : ∃ b, b = (xb || decide (256 ^ 3 ≤ s.length)) := ⟨_, rfl⟩
  rw [← hbad] at g1
  have HBD := Lib.hid hbad
  clear hbad
  clear hh hown hF2
  go_wp2_with fail
  go_quiet (fail)
  go_wp2_with fail
  go_ret2
  refine ⟨v, by rw [← HBD.out]; rfl, ?_, Below_drewN HB.out nq⟩
  have h := HO.out
  have e1 : (en 1 kind ++ en 3 s.length ++ s).length = s.length + 4 := by simp [en_length]; omega
  rw [← e1]
  exact h

theorem results_cell1 {fn : Func} {p : Tmp} {ty : TypeId} (h : fn.results = #[.cell p ty]) (tmps : Array Value) (P : Program) (w : World) :
    (results fn tmps).run P w = ((asAddr (tmps.getD p undef)).run P w).andThen fun a w₁ => (loadVar ty a).run P w₁ := by
  simp only [results, h]
  simp [Sem.run_bind, Result.andThen]

set_option maxRecDepth 100000 in
set_option maxHeartbeats 400000 in
theorem plain_ok {ao : Option Addr} {n cap : Nat} (w : World) :
    Calls Try.prog 35 #[.slice ao n cap] w fun e w' => e = .returned (.agg #[.slice ao n cap, .bool false]) ∧ Below w.heap.size w w' := by
  go_enter Try.func35, Try.ntmps35
  go_wp2_with fail
  (try simp only [Exit.inBlock, Exit.then])
  refine bodyPost_ret (v := .agg #[.slice ao n cap, .bool false]) ?_ rfl ⟨rfl, (Below.refl _ w).alloc (Nat.le_refl _) _⟩
  rw [results_cell1 rfl]
  go_simp

set_option maxRecDepth 100000 in
set_option maxHeartbeats 400000 in
theorem writePlain_ok {s : List UInt8} {u : Value} (kind : Nat) (w : World) (hkind : kind < 256) (hs : SrcB w w.heap.size u s) (hs2 : s.length ≤ 4294967296) :
    Calls Try.prog 11 #[.int .i64 kind, u] w fun e w' => ∃ v, e = .returned (.tuple #[v, .bool (!decide (256 ^ 3 ≤ s.length))]) ∧
      w'.ownsRow w.heap.size 5 1 v (s.length + 4) ((en 1 kind ++ en 3 s.length ++ s).map by8) ∧ Below w.heap.size w w' := by
  obtain ⟨ad0, cap0, rfl⟩ := hs.len
  have HS := Lib.hid hs
  clear hs
  go_enter Try.func11, Try.ntmps11
  go_wp2_with fail
  refine (plain_ok w).mono ?_
  rintro e w1 ⟨rfl, hB1⟩
  have HS1 := Lib.hid ((HS.out.below hB1).keep hB1.size (fun _ _ => rfl))
  have HB1 := Lib.hid hB1
  clear hB1
  go_wp2_with fail
  refine (message_ok kind w1 hkind HS1.out hs2).mono ?_
  rintro e w2 ⟨v, rfl, hown, hB2⟩
  rw [Bool.false_or]
  have HO := Lib.hid (ownsRow_mono hown HB1.out.size)
  have HB := Lib.hid (HB1.out.trans (hB2.mono HB1.out.size))
  clear hown hB2
  go_wp2_with fail
  go_ret2
  exact ⟨v, rfl, HO.out, HB.out⟩

end Go.Proofs.Ytopcljikkdlffaa
