/- Contracts of cryptobyte.Builder's vectors by their lengths' sizes, and of Bytes. No statement of the seat is proved here. -/
import Derived.Test.YtopcljikkdlffaaLp
namespace Go.Proofs.Ytopcljikkdlffaa
open Go.RowKit

theorem mk1 (w : World) : (Instr.makeSlice 22 (.int .i64 ((1 : Nat) : Int)) (.int .i64 ((1 : Nat) : Int))).run Try.prog w = .ok (.slice (some ⟨w.heap.size, 0, none⟩) 1 1) (w.alloc (.cells (Array.replicate 1 (by8 0)) 5)) := by kernel_rfl

set_option maxRecDepth 100000 in
set_option maxHeartbeats 400000 in
theorem lp1_flag {base c q k off pl : Nat} {b : Bool} {caps : Array Value} {bs out : List UInt8} (w : World) (hout : out.length < 256)
    (hB : BAt w base c off pl (.pointer (some ⟨q, 0, none⟩)) bs) (hq : Flag w q b) (hl : bs.length + 1 + out.length ≤ 70368744177664)
    (henter : ∀ (args : Array Value) (w : World), (callFunc k args).run Try.prog w = .ok (.enter k args) w) (hem : Emits base q k caps out w) :
    Calls Try.prog 116 #[.pointer (some ⟨c, 0, none⟩), .func (.func k) #[] caps] w fun e w' => e = .returned (.tuple #[]) ∧
      BAt w' base c off pl (.pointer (some ⟨q, 0, none⟩)) (bs ++ en 1 out.length ++ out) ∧ Fr base c w w' := by
  have h := lp_flag (m := 1) w (by omega) hout hB hq hl mk1 henter hem
  have H := Lib.hid h
  clear h hB hq hem
  go_enter Try.func116, Try.ntmps116
  go_wp2_with fail
  refine H.out.mono ?_
  rintro e w1 ⟨rfl, h1, h2⟩
  go_wp2_with fail
  go_end0
  exact ⟨rfl, h1, h2⟩

set_option maxRecDepth 100000 in
set_option maxHeartbeats 400000 in
theorem lp1_new {base c k off pl : Nat} {caps : Array Value} {bs out : List UInt8} (w : World) (hout : out.length < 256)
    (hB : BAt w base c off pl (.pointer none) bs) (hl : bs.length + 1 + out.length ≤ 70368744177664)
    (henter : ∀ (args : Array Value) (w : World), (callFunc k args).run Try.prog w = .ok (.enter k args) w) (hem : ∀ q, w.heap.size ≤ q → Emits base q k caps out w) :
    Calls Try.prog 116 #[.pointer (some ⟨c, 0, none⟩), .func (.func k) #[] caps] w fun e w' => ∃ q, e = .returned (.tuple #[]) ∧
      BAt w' base c off pl (.pointer (some ⟨q, 0, none⟩)) (bs ++ en 1 out.length ++ out) ∧ Flag w' q false ∧ w.heap.size ≤ q ∧ Fr base c w w' := by
  have h := lp_new (m := 1) w (by omega) hout hB hl mk1 henter hem
  have H := Lib.hid h
  clear h hB hem
  go_enter Try.func116, Try.ntmps116
  go_wp2_with fail
  refine H.out.mono ?_
  rintro e w1 ⟨q, rfl, h1, h2, h3, h4⟩
  go_wp2_with fail
  go_end0
  exact ⟨q, rfl, h1, h2, h3, h4⟩

theorem mk2 (w : World) : (Instr.makeSlice 22 (.int .i64 ((2 : Nat) : Int)) (.int .i64 ((2 : Nat) : Int))).run Try.prog w = .ok (.slice (some ⟨w.heap.size, 0, none⟩) 2 2) (w.alloc (.cells (Array.replicate 2 (by8 0)) 5)) := by kernel_rfl

set_option maxRecDepth 100000 in
set_option maxHeartbeats 400000 in
theorem lp2_flag {base c q k off pl : Nat} {b : Bool} {caps : Array Value} {bs out : List UInt8} (w : World) (hout : out.length < 65536)
    (hB : BAt w base c off pl (.pointer (some ⟨q, 0, none⟩)) bs) (hq : Flag w q b) (hl : bs.length + 2 + out.length ≤ 70368744177664)
    (henter : ∀ (args : Array Value) (w : World), (callFunc k args).run Try.prog w = .ok (.enter k args) w) (hem : Emits base q k caps out w) :
    Calls Try.prog 114 #[.pointer (some ⟨c, 0, none⟩), .func (.func k) #[] caps] w fun e w' => e = .returned (.tuple #[]) ∧
      BAt w' base c off pl (.pointer (some ⟨q, 0, none⟩)) (bs ++ en 2 out.length ++ out) ∧ Fr base c w w' := by
  have h := lp_flag (m := 2) w (by omega) hout hB hq hl mk2 henter hem
  have H := Lib.hid h
  clear h hB hq hem
  go_enter Try.func114, Try.ntmps114
  go_wp2_with fail
  refine H.out.mono ?_
  rintro e w1 ⟨rfl, h1, h2⟩
  go_wp2_with fail
  go_end0
  exact ⟨rfl, h1, h2⟩

set_option maxRecDepth 100000 in
set_option maxHeartbeats 400000 in
theorem lp2_new {base c k off pl : Nat} {caps : Array Value} {bs out : List UInt8} (w : World) (hout : out.length < 65536)
    (hB : BAt w base c off pl (.pointer none) bs) (hl : bs.length + 2 + out.length ≤ 70368744177664)
    (henter : ∀ (args : Array Value) (w : World), (callFunc k args).run Try.prog w = .ok (.enter k args) w) (hem : ∀ q, w.heap.size ≤ q → Emits base q k caps out w) :
    Calls Try.prog 114 #[.pointer (some ⟨c, 0, none⟩), .func (.func k) #[] caps] w fun e w' => ∃ q, e = .returned (.tuple #[]) ∧
      BAt w' base c off pl (.pointer (some ⟨q, 0, none⟩)) (bs ++ en 2 out.length ++ out) ∧ Flag w' q false ∧ w.heap.size ≤ q ∧ Fr base c w w' := by
  have h := lp_new (m := 2) w (by omega) hout hB hl mk2 henter hem
  have H := Lib.hid h
  clear h hB hem
  go_enter Try.func114, Try.ntmps114
  go_wp2_with fail
  refine H.out.mono ?_
  rintro e w1 ⟨q, rfl, h1, h2, h3, h4⟩
  go_wp2_with fail
  go_end0
  exact ⟨q, rfl, h1, h2, h3, h4⟩

theorem mk3 (w : World) : (Instr.makeSlice 22 (.int .i64 ((3 : Nat) : Int)) (.int .i64 ((3 : Nat) : Int))).run Try.prog w = .ok (.slice (some ⟨w.heap.size, 0, none⟩) 3 3) (w.alloc (.cells (Array.replicate 3 (by8 0)) 5)) := by kernel_rfl

set_option maxRecDepth 100000 in
set_option maxHeartbeats 400000 in
theorem lp3_flag {base c q k off pl : Nat} {b : Bool} {caps : Array Value} {bs out : List UInt8} (w : World) (hout : out.length < 16777216)
    (hB : BAt w base c off pl (.pointer (some ⟨q, 0, none⟩)) bs) (hq : Flag w q b) (hl : bs.length + 3 + out.length ≤ 70368744177664)
    (henter : ∀ (args : Array Value) (w : World), (callFunc k args).run Try.prog w = .ok (.enter k args) w) (hem : Emits base q k caps out w) :
    Calls Try.prog 106 #[.pointer (some ⟨c, 0, none⟩), .func (.func k) #[] caps] w fun e w' => e = .returned (.tuple #[]) ∧
      BAt w' base c off pl (.pointer (some ⟨q, 0, none⟩)) (bs ++ en 3 out.length ++ out) ∧ Fr base c w w' := by
  have h := lp_flag (m := 3) w (by omega) hout hB hq hl mk3 henter hem
  have H := Lib.hid h
  clear h hB hq hem
  go_enter Try.func106, Try.ntmps106
  go_wp2_with fail
  refine H.out.mono ?_
  rintro e w1 ⟨rfl, h1, h2⟩
  go_wp2_with fail
  go_end0
  exact ⟨rfl, h1, h2⟩

set_option maxRecDepth 100000 in
set_option maxHeartbeats 400000 in
theorem lp3_new {base c k off pl : Nat} {caps : Array Value} {bs out : List UInt8} (w : World) (hout : out.length < 16777216)
    (hB : BAt w base c off pl (.pointer none) bs) (hl : bs.length + 3 + out.length ≤ 70368744177664)
    (henter : ∀ (args : Array Value) (w : World), (callFunc k args).run Try.prog w = .ok (.enter k args) w) (hem : ∀ q, w.heap.size ≤ q → Emits base q k caps out w) :
    Calls Try.prog 106 #[.pointer (some ⟨c, 0, none⟩), .func (.func k) #[] caps] w fun e w' => ∃ q, e = .returned (.tuple #[]) ∧
      BAt w' base c off pl (.pointer (some ⟨q, 0, none⟩)) (bs ++ en 3 out.length ++ out) ∧ Flag w' q false ∧ w.heap.size ≤ q ∧ Fr base c w w' := by
  have h := lp_new (m := 3) w (by omega) hout hB hl mk3 henter hem
  have H := Lib.hid h
  clear h hB hem
  go_enter Try.func106, Try.ntmps106
  go_wp2_with fail
  refine H.out.mono ?_
  rintro e w1 ⟨q, rfl, h1, h2, h3, h4⟩
  go_wp2_with fail
  go_end0
  exact ⟨q, rfl, h1, h2, h3, h4⟩

set_option maxRecDepth 100000 in
set_option maxHeartbeats 400000 in
theorem bytes_ok {base c pl : Nat} {ic : Value} {bs : List UInt8} (w : World) (hB : BAt w base c 0 pl ic bs) :
    Calls Try.prog 109 #[.pointer (some ⟨c, 0, none⟩)] w fun e w' => ∃ v, e = .returned (.tuple #[v, .nilIface]) ∧ w'.ownsRow base 5 1 v bs.length (bs.map by8) ∧ w' = w.drew := by
  obtain ⟨v, hc, hown, hbase⟩ := hB
  obtain ⟨ao, cap, rfl⟩ := row_slice hown
  obtain ⟨f0, f1, f2, f3, f4, f5, f6, f7⟩ := bfacts hc
  have hcap : bs.length ≤ cap ∧ cap ≤ 9223372036854775807 := by
    rcases hown.2 with ⟨h, h2⟩ | ⟨g, cap', cur, h, _, _, h3, h4, _⟩
    · simp only [Value.slice.injEq] at h; omega
    · simp only [Value.slice.injEq] at h; unfold maxLen at h4; omega
  have HO := Lib.hid hown
  clear hc hown
  go_enter Try.func109, Try.ntmps109
  go_wp2_with fail
  refine region_tail 8 (by kernel_rfl) ?_
  simp only [List.take_succ_cons, List.take_zero, List.drop_succ_cons, List.drop_zero]
  repeat still_step
  refine wpStill_nil ?_
  go_wp2_with fail
  go_ret2
  exact ⟨_, rfl, HO.out, rfl⟩

end Go.Proofs.Ytopcljikkdlffaa
