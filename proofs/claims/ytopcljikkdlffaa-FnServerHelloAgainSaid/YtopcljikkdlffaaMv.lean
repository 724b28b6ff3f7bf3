/- addBytesWithLength: bytes whose length is right are added. No statement of the seat is proved here. -/
import Derived.Test.YtopcljikkdlffaaMw
namespace Go.Proofs.Ytopcljikkdlffaa
open Go.RowKit

set_option maxRecDepth 100000 in
set_option maxHeartbeats 1000000 in
theorem abwl1_ok {base c off pl vB nB : Nat} {ic v : Value} {bs s : List UInt8} {Tv Tn : TypeId} (w : World) (hB : BAt w base c off pl ic bs) (hs : Src w v s)
    (hv : w.heap[vB]? = some (.cells #[v] Tv (0, 0))) (hn : w.heap[nB]? = some (.cells #[.int .i64 (s.length : Nat)] Tn (0, 0))) (hl : bs.length + s.length ≤ 70368744177664) :
    Calls Try.prog 156 #[.pointer (some ⟨c, 0, none⟩), .pointer (some ⟨vB, 0, none⟩), .pointer (some ⟨nB, 0, none⟩)] w fun e w' => e = .returned .nilIface ∧ BAt w' base c off pl ic (bs ++ s) ∧ Fr base c w w' := by
  have hve : ∃ a k, v = .slice a s.length k := by
    rcases hs with ⟨rfl, rfl⟩ | ⟨ad, cap, rfl, _⟩
    · exact ⟨none, 0, rfl⟩
    · exact ⟨_, _, rfl⟩
  obtain ⟨a, k, rfl⟩ := hve
  have c1 := cell_head hv
  have c2 := cell_head hn
  have HB := Lib.hid hB
  have HS := Lib.hid hs
  clear hB hs hv hn
  go_enter Try.func156, Try.ntmps156
  go_wp2_with fail
  refine (addb_ok w HB.out HS.out hl).mono ?_
  rintro e w1 ⟨rfl, hb, hfr⟩
  have HB1 := Lib.hid hb
  have HFR := Lib.hid hfr
  clear hb hfr
  go_wp2_with fail
  go_ret
  exact ⟨rfl, HB1.out, HFR.out⟩

set_option maxRecDepth 100000 in
set_option maxHeartbeats 1000000 in
theorem abwl2_ok {base c off pl vB nB : Nat} {ic v : Value} {bs s : List UInt8} {Tv Tn : TypeId} (w : World) (hB : BAt w base c off pl ic bs) (hs : Src w v s)
    (hv : w.heap[vB]? = some (.cells #[v] Tv (0, 0))) (hn : w.heap[nB]? = some (.cells #[.int .i64 (s.length : Nat)] Tn (0, 0))) (hl : bs.length + s.length ≤ 70368744177664) :
    Calls Try.prog 179 #[.func (.func 156) #[] #[.pointer (some ⟨vB, 0, none⟩), .pointer (some ⟨nB, 0, none⟩)], .pointer (some ⟨c, 0, none⟩)] w fun e w' => e = .returned .nilIface ∧ BAt w' base c off pl ic (bs ++ s) ∧ Fr base c w w' := by
  have H := Lib.hid (abwl1_ok w hB hs hv hn hl)
  have henter := enter_of Try.func156 (by kernel_rfl) (by kernel_rfl)
  clear hB hs hv hn
  go_enter Try.func179, Try.ntmps179
  go_wp2_with fail
  refine H.out.mono ?_
  rintro e w1 ⟨rfl, hb, hfr⟩
  have HB1 := Lib.hid hb
  have HFR := Lib.hid hfr
  clear hb hfr
  go_wp2_with fail
  go_ret
  exact ⟨rfl, HB1.out, HFR.out⟩

set_option maxRecDepth 100000 in
set_option maxHeartbeats 1000000 in
theorem abwl3_ok {base c off pl vB nB : Nat} {ic v : Value} {bs s : List UInt8} {Tv Tn : TypeId} (w : World) (hB : BAt w base c off pl ic bs) (hs : Src w v s)
    (hv : w.heap[vB]? = some (.cells #[v] Tv (0, 0))) (hn : w.heap[nB]? = some (.cells #[.int .i64 (s.length : Nat)] Tn (0, 0))) (hl : bs.length + s.length ≤ 70368744177664) :
    Calls Try.prog 155 #[.pointer (some ⟨c, 0, none⟩), .iface 187 (.func (.func 156) #[] #[.pointer (some ⟨vB, 0, none⟩), .pointer (some ⟨nB, 0, none⟩)])] w fun e w' => e = .returned (.tuple #[]) ∧ BAt w' base c off pl ic (bs ++ s) ∧ Fr base c w w' := by
  have H := Lib.hid (abwl2_ok w hB hs hv hn hl)
  have hm : ∀ w : World, (method 313 187 (.func (.func 156) #[] #[.pointer (some ⟨vB, 0, none⟩), .pointer (some ⟨nB, 0, none⟩)]) "Marshal").run Try.prog w = .ok (179, .func (.func 156) #[] #[.pointer (some ⟨vB, 0, none⟩), .pointer (some ⟨nB, 0, none⟩)]) w := fun _ => by kernel_rfl
  clear hB hs hv hn
  go_enter Try.func155, Try.ntmps155
  go_wp2_with fail
  refine H.out.mono ?_
  rintro e w1 ⟨rfl, hb, hfr⟩
  have HB1 := Lib.hid hb
  have HFR := Lib.hid hfr
  clear hb hfr
  go_wp2_with fail
  go_end0
  exact ⟨rfl, HB1.out, HFR.out⟩

set_option maxRecDepth 100000 in
set_option maxHeartbeats 1000000 in
theorem abwl_ok {base c off pl : Nat} {ic v : Value} {bs s : List UInt8} (w : World) (hB : BAt w base c off pl ic bs) (hs : SrcB w base v s) (hb : base ≤ w.heap.size) (hl : bs.length + s.length ≤ 70368744177664) (n : Int) (hn : n = (s.length : Nat)) :
    Calls Try.prog 136 #[.pointer (some ⟨c, 0, none⟩), v, .int .i64 n] w fun e w' => e = .returned (.tuple #[]) ∧ BAt w' base c off pl ic (bs ++ s) ∧ Fr base c w w' := by
  obtain ⟨a, k, rfl⟩ := hs.len
  obtain ⟨W, hW⟩ : ∃ W, W = (w.alloc (.cells #[.slice a s.length k] 22)).alloc (.cells #[.int .i64 n] 3) := ⟨_, rfl⟩
  have hWv : W.heap[w.heap.size]? = some (.cells #[.slice a s.length k] 22 (0, 0)) := by rw [hW]; exact heap_push (heap_alloc_new _ _)
  have hWn : W.heap[w.heap.size + 1]? = some (.cells #[.int .i64 (s.length : Nat)] 3 (0, 0)) := by
    have h := heap_alloc_new (w.alloc (.cells #[.slice a s.length k] 22)) (.cells #[.int .i64 n] 3)
    rw [World.size_alloc] at h
    rw [hW, ← hn]; exact h
  have hWB : BAt W base c off pl ic bs := by rw [hW]; exact (hB.alloc _).alloc _
  have hWS : Src W (.slice a s.length k) s := (hs.keep (w' := W) (Nat.le_refl _) fun j hj => by rw [hW]; exact (Below.heap_alloc _ _ _ (by simp; omega)).trans (Below.heap_alloc _ _ _ (by omega))).src
  have H := Lib.hid (abwl3_ok W hWB hWS hWv hWn hl)
  have HF : Hid (Fr base c w W) := Lib.hid (by rw [hW]; exact ((Fr.refl _ _ _).alloc _).alloc _)
  have HW := Lib.hid hW
  clear hB hs hW hWv hWn hWB hWS hn
  go_enter Try.func136, Try.ntmps136
  go_wp2_with fail
  rw [← HW.out]
  refine H.out.mono ?_
  rintro e w1 ⟨rfl, hb, hfr⟩
  have HB1 := Lib.hid hb
  have HFR := Lib.hid hfr
  clear hb hfr
  go_wp2_with fail
  go_end0
  exact ⟨rfl, HB1.out, HF.out.trans HFR.out⟩

end Go.Proofs.Ytopcljikkdlffaa
