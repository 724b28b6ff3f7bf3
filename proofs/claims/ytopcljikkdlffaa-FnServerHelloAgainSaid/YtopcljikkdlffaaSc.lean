/- The switch of a ServerHello's unmarshal, case by case. No statement of the seat is proved here. -/
import Derived.Test.YtopcljikkdlffaaSb
import Derived.Test.YtopcljikkdlffaaCy
namespace Go.Proofs.Ytopcljikkdlffaa
open Go.RowKit

theorem sh_left {w : World} {base : Nat} {C : Array Value} {g m dB : Nat} {f : SH} {vd : Value} (hS : SHAt w base C g m f) (hd : w.heap[dB]? = some (.cells #[vd] 152 (0, 0))) (hmd : m ≠ dB) (v2 : Value) :
    SHAt (w.setCell ⟨dB, 0, none⟩ v2) base C g m f ∧ (w.setCell ⟨dB, 0, none⟩ v2).heap[dB]? = some (.cells #[v2] 152 (0, 0)) :=
  ⟨hS.fs ((Fs.refl [dB] w).setCell dB 0 _ (by simp)) (by simpa using hmd) (Odd.cons hd (by decide) (by decide) (Odd.nil _)), (heap_set_same hd).trans rfl⟩

/-- The data's reader is where it was; the world has not turned but for m and it. -/
theorem fs_two {l : List Nat} {w : World} {m k dB : Nat} {u v : Value} (h1 : dB ∈ l) (h2 : m ∈ l) : Fs l w ((w.setCell ⟨dB, 0, none⟩ v).setCell ⟨m, k, none⟩ u) :=
  ((Fs.refl l w).setCell dB 0 _ h1).setCell m k _ h2

theorem SHAt.drew {w : World} {base : Nat} {C : Array Value} {g m : Nat} {f : SH} (h : SHAt w base C g m f) : SHAt w.drew base C g m f := h


set_option maxRecDepth 100000 in
set_option maxHeartbeats 4000000 in
theorem sw_5 {w : World} {base : Nat} {C : Array Value} {g m dB : Nat} {T : TypeId} {fr : Nat × Nat} {f : SH} {d : List UInt8} {vd k5 k6 k7 : Value} (z : Nat → Value) (hS : SHAt w base C g m f) (hg : w.heap[g]? = some (.cells C T fr))
    (hd : w.heap[dB]? = some (.cells #[vd] 152 (0, 0))) (hv : View C g vd d) (hgm : g ≠ m) (hgd : g ≠ dB) (hmd : m ≠ dB) (hb : base ≤ w.heap.size) :
    Code.wp Try.prog shSwitch (SwOut w base C g m dB k5 k6 k7 f 5 d) ⟨#[.pointer (some ⟨m, 0, none⟩), z 1, z 2, z 3, z 4, k5, k6, k7, z 8, .pointer (some ⟨dB, 0, none⟩), z 10, z 11, z 12, z 13, z 14, z 15, z 16, z 17, z 18, z 19, z 20, z 21, z 22, z 23, z 24, z 25, z 26, z 27, z 28, z 29, z 30, z 31, z 32, z 33, z 34, z 35, z 36, z 37, z 38, z 39, z 40, z 41, z 42, z 43, z 44, z 45, z 46, z 47, z 48, z 49, z 50, z 51, z 52, z 53, z 54, z 55, z 56, z 57, z 58, z 59, z 60, z 61, z 62, z 63, z 64, z 65, z 66, z 67, z 68, z 69, z 70, z 71, z 72, z 73, z 74, z 75, z 76, z 77, z 78, z 79, .int .u16 5, z 81, z 82, z 83, z 84, z 85, z 86, z 87, z 88, z 89, z 90, z 91, z 92, z 93, z 94, z 95, z 96, z 97, z 98, z 99, z 100, z 101, z 102, z 103, z 104, z 105, z 106, z 107, z 108, z 109, z 110, z 111, z 112, z 113, z 114, z 115, z 116, z 117, z 118, z 119, z 120, z 121, z 122, z 123, z 124, z 125, z 126, z 127, z 128, z 129, z 130, z 131, z 132, z 133, z 134, z 135, z 136, z 137, z 138, z 139, z 140, z 141, z 142, z 143, z 144, z 145, z 146, z 147, z 148, z 149, z 150, z 151, z 152, z 153, z 154, z 155, z 156, z 157, z 158, z 159, z 160, z 161, z 162, z 163, z 164, z 165, z 166, z 167, z 168, z 169, z 170, z 171, z 172, z 173, z 174, z 175, z 176, z 177, z 178, z 179, z 180, z 181, z 182, z 183, z 184, z 185, z 186, z 187, z 188, z 189, z 190, z 191, z 192, z 193, z 194, z 195, z 196, z 197, z 198, z 199, z 200, z 201, z 202, z 203, z 204, z 205, z 206, z 207, z 208, z 209, z 210, z 211, z 212, z 213, z 214, z 215, z 216, z 217, z 218, z 219, z 220, z 221, z 222, z 223, z 224, z 225, z 226, z 227, z 228, z 229, z 230, z 231, z 232, z 233, z 234, z 235, z 236, z 237, z 238, z 239, z 240, z 241, z 242, z 243, z 244, z 245, z 246, z 247, z 248, z 249, z 250, z 251, z 252, z 253], []⟩ w := by
  have HS := Lib.hid hS
  have HD := Lib.hid hd
  have HV := Lib.hid hv
  have HG := Lib.hid hg
  have c0 := cell_head hd
  have cz : w.frozen? ⟨dB, 0, none⟩ = false := frozen_of_heap hd
  have hdg : ¬ dB = g := fun e => hgd e.symm
  have hdm : ¬ dB = m := fun e => hmd e.symm
  have q := hS.at_ocsp
  have qz := hS.frozen 6
  clear hS hd hv hg
  conv => arg 2; whnf
  go_wp2_with fail
  exact ⟨rfl, (Fs.refl _ w).setCell m 6 _ (by simp), .inr ⟨_, _, rfl, ⟨rfl, rfl, rfl, rfl, rfl, rfl⟩, HS.out.set_ocsp true, .inr ⟨rfl, vd, heap_past HD.out hmd, HV.out⟩⟩⟩

set_option maxRecDepth 100000 in
set_option maxHeartbeats 4000000 in
theorem sw_35 {w : World} {base : Nat} {C : Array Value} {g m dB : Nat} {T : TypeId} {fr : Nat × Nat} {f : SH} {d : List UInt8} {vd k5 k6 k7 : Value} (z : Nat → Value) (hS : SHAt w base C g m f) (hg : w.heap[g]? = some (.cells C T fr))
    (hd : w.heap[dB]? = some (.cells #[vd] 152 (0, 0))) (hv : View C g vd d) (hgm : g ≠ m) (hgd : g ≠ dB) (hmd : m ≠ dB) (hb : base ≤ w.heap.size) :
    Code.wp Try.prog shSwitch (SwOut w base C g m dB k5 k6 k7 f 35 d) ⟨#[.pointer (some ⟨m, 0, none⟩), z 1, z 2, z 3, z 4, k5, k6, k7, z 8, .pointer (some ⟨dB, 0, none⟩), z 10, z 11, z 12, z 13, z 14, z 15, z 16, z 17, z 18, z 19, z 20, z 21, z 22, z 23, z 24, z 25, z 26, z 27, z 28, z 29, z 30, z 31, z 32, z 33, z 34, z 35, z 36, z 37, z 38, z 39, z 40, z 41, z 42, z 43, z 44, z 45, z 46, z 47, z 48, z 49, z 50, z 51, z 52, z 53, z 54, z 55, z 56, z 57, z 58, z 59, z 60, z 61, z 62, z 63, z 64, z 65, z 66, z 67, z 68, z 69, z 70, z 71, z 72, z 73, z 74, z 75, z 76, z 77, z 78, z 79, .int .u16 35, z 81, z 82, z 83, z 84, z 85, z 86, z 87, z 88, z 89, z 90, z 91, z 92, z 93, z 94, z 95, z 96, z 97, z 98, z 99, z 100, z 101, z 102, z 103, z 104, z 105, z 106, z 107, z 108, z 109, z 110, z 111, z 112, z 113, z 114, z 115, z 116, z 117, z 118, z 119, z 120, z 121, z 122, z 123, z 124, z 125, z 126, z 127, z 128, z 129, z 130, z 131, z 132, z 133, z 134, z 135, z 136, z 137, z 138, z 139, z 140, z 141, z 142, z 143, z 144, z 145, z 146, z 147, z 148, z 149, z 150, z 151, z 152, z 153, z 154, z 155, z 156, z 157, z 158, z 159, z 160, z 161, z 162, z 163, z 164, z 165, z 166, z 167, z 168, z 169, z 170, z 171, z 172, z 173, z 174, z 175, z 176, z 177, z 178, z 179, z 180, z 181, z 182, z 183, z 184, z 185, z 186, z 187, z 188, z 189, z 190, z 191, z 192, z 193, z 194, z 195, z 196, z 197, z 198, z 199, z 200, z 201, z 202, z 203, z 204, z 205, z 206, z 207, z 208, z 209, z 210, z 211, z 212, z 213, z 214, z 215, z 216, z 217, z 218, z 219, z 220, z 221, z 222, z 223, z 224, z 225, z 226, z 227, z 228, z 229, z 230, z 231, z 232, z 233, z 234, z 235, z 236, z 237, z 238, z 239, z 240, z 241, z 242, z 243, z 244, z 245, z 246, z 247, z 248, z 249, z 250, z 251, z 252, z 253], []⟩ w := by
  have HS := Lib.hid hS
  have HD := Lib.hid hd
  have HV := Lib.hid hv
  have HG := Lib.hid hg
  have c0 := cell_head hd
  have cz : w.frozen? ⟨dB, 0, none⟩ = false := frozen_of_heap hd
  have hdg : ¬ dB = g := fun e => hgd e.symm
  have hdm : ¬ dB = m := fun e => hmd e.symm
  have q := hS.at_ticket
  have qz := hS.frozen 7
  clear hS hd hv hg
  conv => arg 2; whnf
  go_wp2_with fail
  exact ⟨rfl, (Fs.refl _ w).setCell m 7 _ (by simp), .inr ⟨_, _, rfl, ⟨rfl, rfl, rfl, rfl, rfl, rfl⟩, HS.out.set_ticket true, .inr ⟨rfl, vd, heap_past HD.out hmd, HV.out⟩⟩⟩

set_option maxRecDepth 100000 in
set_option maxHeartbeats 4000000 in
theorem sw_23 {w : World} {base : Nat} {C : Array Value} {g m dB : Nat} {T : TypeId} {fr : Nat × Nat} {f : SH} {d : List UInt8} {vd k5 k6 k7 : Value} (z : Nat → Value) (hS : SHAt w base C g m f) (hg : w.heap[g]? = some (.cells C T fr))
    (hd : w.heap[dB]? = some (.cells #[vd] 152 (0, 0))) (hv : View C g vd d) (hgm : g ≠ m) (hgd : g ≠ dB) (hmd : m ≠ dB) (hb : base ≤ w.heap.size) :
    Code.wp Try.prog shSwitch (SwOut w base C g m dB k5 k6 k7 f 23 d) ⟨#[.pointer (some ⟨m, 0, none⟩), z 1, z 2, z 3, z 4, k5, k6, k7, z 8, .pointer (some ⟨dB, 0, none⟩), z 10, z 11, z 12, z 13, z 14, z 15, z 16, z 17, z 18, z 19, z 20, z 21, z 22, z 23, z 24, z 25, z 26, z 27, z 28, z 29, z 30, z 31, z 32, z 33, z 34, z 35, z 36, z 37, z 38, z 39, z 40, z 41, z 42, z 43, z 44, z 45, z 46, z 47, z 48, z 49, z 50, z 51, z 52, z 53, z 54, z 55, z 56, z 57, z 58, z 59, z 60, z 61, z 62, z 63, z 64, z 65, z 66, z 67, z 68, z 69, z 70, z 71, z 72, z 73, z 74, z 75, z 76, z 77, z 78, z 79, .int .u16 23, z 81, z 82, z 83, z 84, z 85, z 86, z 87, z 88, z 89, z 90, z 91, z 92, z 93, z 94, z 95, z 96, z 97, z 98, z 99, z 100, z 101, z 102, z 103, z 104, z 105, z 106, z 107, z 108, z 109, z 110, z 111, z 112, z 113, z 114, z 115, z 116, z 117, z 118, z 119, z 120, z 121, z 122, z 123, z 124, z 125, z 126, z 127, z 128, z 129, z 130, z 131, z 132, z 133, z 134, z 135, z 136, z 137, z 138, z 139, z 140, z 141, z 142, z 143, z 144, z 145, z 146, z 147, z 148, z 149, z 150, z 151, z 152, z 153, z 154, z 155, z 156, z 157, z 158, z 159, z 160, z 161, z 162, z 163, z 164, z 165, z 166, z 167, z 168, z 169, z 170, z 171, z 172, z 173, z 174, z 175, z 176, z 177, z 178, z 179, z 180, z 181, z 182, z 183, z 184, z 185, z 186, z 187, z 188, z 189, z 190, z 191, z 192, z 193, z 194, z 195, z 196, z 197, z 198, z 199, z 200, z 201, z 202, z 203, z 204, z 205, z 206, z 207, z 208, z 209, z 210, z 211, z 212, z 213, z 214, z 215, z 216, z 217, z 218, z 219, z 220, z 221, z 222, z 223, z 224, z 225, z 226, z 227, z 228, z 229, z 230, z 231, z 232, z 233, z 234, z 235, z 236, z 237, z 238, z 239, z 240, z 241, z 242, z 243, z 244, z 245, z 246, z 247, z 248, z 249, z 250, z 251, z 252, z 253], []⟩ w := by
  have HS := Lib.hid hS
  have HD := Lib.hid hd
  have HV := Lib.hid hv
  have HG := Lib.hid hg
  have c0 := cell_head hd
  have cz : w.frozen? ⟨dB, 0, none⟩ = false := frozen_of_heap hd
  have hdg : ¬ dB = g := fun e => hgd e.symm
  have hdm : ¬ dB = m := fun e => hmd e.symm
  have q := hS.at_ems
  have qz := hS.frozen 10
  clear hS hd hv hg
  conv => arg 2; whnf
  go_wp2_with fail
  exact ⟨rfl, (Fs.refl _ w).setCell m 10 _ (by simp), .inr ⟨_, _, rfl, ⟨rfl, rfl, rfl, rfl, rfl, rfl⟩, HS.out.set_ems true, .inr ⟨rfl, vd, heap_past HD.out hmd, HV.out⟩⟩⟩

set_option maxRecDepth 100000 in
set_option maxHeartbeats 4000000 in
theorem sw_0 {w : World} {base : Nat} {C : Array Value} {g m dB : Nat} {T : TypeId} {fr : Nat × Nat} {f : SH} {d : List UInt8} {vd k5 k6 k7 : Value} (z : Nat → Value) (hS : SHAt w base C g m f) (hg : w.heap[g]? = some (.cells C T fr))
    (hd : w.heap[dB]? = some (.cells #[vd] 152 (0, 0))) (hv : View C g vd d) (hgm : g ≠ m) (hgd : g ≠ dB) (hmd : m ≠ dB) (hb : base ≤ w.heap.size) :
    Code.wp Try.prog shSwitch (SwOut w base C g m dB k5 k6 k7 f 0 d) ⟨#[.pointer (some ⟨m, 0, none⟩), z 1, z 2, z 3, z 4, k5, k6, k7, z 8, .pointer (some ⟨dB, 0, none⟩), z 10, z 11, z 12, z 13, z 14, z 15, z 16, z 17, z 18, z 19, z 20, z 21, z 22, z 23, z 24, z 25, z 26, z 27, z 28, z 29, z 30, z 31, z 32, z 33, z 34, z 35, z 36, z 37, z 38, z 39, z 40, z 41, z 42, z 43, z 44, z 45, z 46, z 47, z 48, z 49, z 50, z 51, z 52, z 53, z 54, z 55, z 56, z 57, z 58, z 59, z 60, z 61, z 62, z 63, z 64, z 65, z 66, z 67, z 68, z 69, z 70, z 71, z 72, z 73, z 74, z 75, z 76, z 77, z 78, z 79, .int .u16 0, z 81, z 82, z 83, z 84, z 85, z 86, z 87, z 88, z 89, z 90, z 91, z 92, z 93, z 94, z 95, z 96, z 97, z 98, z 99, z 100, z 101, z 102, z 103, z 104, z 105, z 106, z 107, z 108, z 109, z 110, z 111, z 112, z 113, z 114, z 115, z 116, z 117, z 118, z 119, z 120, z 121, z 122, z 123, z 124, z 125, z 126, z 127, z 128, z 129, z 130, z 131, z 132, z 133, z 134, z 135, z 136, z 137, z 138, z 139, z 140, z 141, z 142, z 143, z 144, z 145, z 146, z 147, z 148, z 149, z 150, z 151, z 152, z 153, z 154, z 155, z 156, z 157, z 158, z 159, z 160, z 161, z 162, z 163, z 164, z 165, z 166, z 167, z 168, z 169, z 170, z 171, z 172, z 173, z 174, z 175, z 176, z 177, z 178, z 179, z 180, z 181, z 182, z 183, z 184, z 185, z 186, z 187, z 188, z 189, z 190, z 191, z 192, z 193, z 194, z 195, z 196, z 197, z 198, z 199, z 200, z 201, z 202, z 203, z 204, z 205, z 206, z 207, z 208, z 209, z 210, z 211, z 212, z 213, z 214, z 215, z 216, z 217, z 218, z 219, z 220, z 221, z 222, z 223, z 224, z 225, z 226, z 227, z 228, z 229, z 230, z 231, z 232, z 233, z 234, z 235, z 236, z 237, z 238, z 239, z 240, z 241, z 242, z 243, z 244, z 245, z 246, z 247, z 248, z 249, z 250, z 251, z 252, z 253], []⟩ w := by
  have HS := Lib.hid hS
  have HD := Lib.hid hd
  have HV := Lib.hid hv
  have HG := Lib.hid hg
  have c0 := cell_head hd
  have cz : w.frozen? ⟨dB, 0, none⟩ = false := frozen_of_heap hd
  have hdg : ¬ dB = g := fun e => hgd e.symm
  have hdm : ¬ dB = m := fun e => hmd e.symm
  have q := hS.at_sna
  have qz := hS.frozen 20
  obtain ⟨off, cap, rfl, hl⟩ := hv.slice
  clear hS hd hv hg
  conv => arg 2; whnf
  by_cases h0 : d = []
  · subst h0
    go_wp2_with fail
    exact ⟨rfl, (Fs.refl _ w).setCell m 20 _ (by simp), .inr ⟨_, _, rfl, ⟨rfl, rfl, rfl, rfl, rfl, rfl⟩, HS.out.set_sna true, .inr ⟨rfl, _, heap_past HD.out hmd, HV.out⟩⟩⟩
  · have hl0 : ¬ d.length = 0 := fun h => h0 (List.length_eq_zero_iff.1 h)
    have hl1 : ¬ ((d.length : Nat) : Int) = 0 := by omega
    have hl2 : (((d.length : Nat) : Int) == 0) = false := by simpa using hl0
    go_wp2_with fail
    exact ⟨rfl, Fs.refl _ w, .inl ⟨rfl, by simp [shExt, h0], rfl, rfl⟩⟩

set_option maxRecDepth 100000 in
set_option maxHeartbeats 4000000 in
theorem sw_65281 {w : World} {base : Nat} {C : Array Value} {g m dB : Nat} {T : TypeId} {fr : Nat × Nat} {f : SH} {d : List UInt8} {vd k5 k6 k7 : Value} (z : Nat → Value) (hS : SHAt w base C g m f) (hg : w.heap[g]? = some (.cells C T fr))
    (hd : w.heap[dB]? = some (.cells #[vd] 152 (0, 0))) (hv : View C g vd d) (hgm : g ≠ m) (hgd : g ≠ dB) (hmd : m ≠ dB) (hb : base ≤ w.heap.size) :
    Code.wp Try.prog shSwitch (SwOut w base C g m dB k5 k6 k7 f 65281 d) ⟨#[.pointer (some ⟨m, 0, none⟩), z 1, z 2, z 3, z 4, k5, k6, k7, z 8, .pointer (some ⟨dB, 0, none⟩), z 10, z 11, z 12, z 13, z 14, z 15, z 16, z 17, z 18, z 19, z 20, z 21, z 22, z 23, z 24, z 25, z 26, z 27, z 28, z 29, z 30, z 31, z 32, z 33, z 34, z 35, z 36, z 37, z 38, z 39, z 40, z 41, z 42, z 43, z 44, z 45, z 46, z 47, z 48, z 49, z 50, z 51, z 52, z 53, z 54, z 55, z 56, z 57, z 58, z 59, z 60, z 61, z 62, z 63, z 64, z 65, z 66, z 67, z 68, z 69, z 70, z 71, z 72, z 73, z 74, z 75, z 76, z 77, z 78, z 79, .int .u16 65281, z 81, z 82, z 83, z 84, z 85, z 86, z 87, z 88, z 89, z 90, z 91, z 92, z 93, z 94, z 95, z 96, z 97, z 98, z 99, z 100, z 101, z 102, z 103, z 104, z 105, z 106, z 107, z 108, z 109, z 110, z 111, z 112, z 113, z 114, z 115, z 116, z 117, z 118, z 119, z 120, z 121, z 122, z 123, z 124, z 125, z 126, z 127, z 128, z 129, z 130, z 131, z 132, z 133, z 134, z 135, z 136, z 137, z 138, z 139, z 140, z 141, z 142, z 143, z 144, z 145, z 146, z 147, z 148, z 149, z 150, z 151, z 152, z 153, z 154, z 155, z 156, z 157, z 158, z 159, z 160, z 161, z 162, z 163, z 164, z 165, z 166, z 167, z 168, z 169, z 170, z 171, z 172, z 173, z 174, z 175, z 176, z 177, z 178, z 179, z 180, z 181, z 182, z 183, z 184, z 185, z 186, z 187, z 188, z 189, z 190, z 191, z 192, z 193, z 194, z 195, z 196, z 197, z 198, z 199, z 200, z 201, z 202, z 203, z 204, z 205, z 206, z 207, z 208, z 209, z 210, z 211, z 212, z 213, z 214, z 215, z 216, z 217, z 218, z 219, z 220, z 221, z 222, z 223, z 224, z 225, z 226, z 227, z 228, z 229, z 230, z 231, z 232, z 233, z 234, z 235, z 236, z 237, z 238, z 239, z 240, z 241, z 242, z 243, z 244, z 245, z 246, z 247, z 248, z 249, z 250, z 251, z 252, z 253], []⟩ w := by
  have HS := Lib.hid hS
  have HD := Lib.hid hd
  have HV := Lib.hid hv
  have HG := Lib.hid hg
  have c0 := cell_head hd
  have cz : w.frozen? ⟨dB, 0, none⟩ = false := frozen_of_heap hd
  have hdg : ¬ dB = g := fun e => hgd e.symm
  have hdm : ¬ dB = m := fun e => hmd e.symm
  obtain ⟨vq, hq, _⟩ := hS.at_sr
  have hqz := hS.frozen 9
  clear hS hd hv hg
  conv => arg 2; whnf
  cases hr : rdv 1 d with
  | none =>
    have HR := Lib.hid hr
    clear hr
    go_wp2_with fail
    refine (t8_no ⟨dB, 0, none⟩ _ w HR.out HG.out HV.out c0 cz hdg).mono ?_
    rintro e w1 ⟨v2, rfl, rfl⟩
    go_wp2_with fail
    exact ⟨rfl, (Fs.refl [m, dB] w).setCell dB 0 _ (by simp), .inl ⟨rfl, by simp [shExt, HR.out], rfl, rfl⟩⟩
  | some xr =>
    obtain ⟨x, r⟩ := xr
    have HR := Lib.hid hr
    clear hr
    go_wp2_with fail
    refine (t8_yes ⟨dB, 0, none⟩ ⟨m, 9, none⟩ w HR.out HG.out HV.out c0 cz hq hqz hdg (by simp [hdm])).mono ?_
    rintro e w1 ⟨v1, v2, rfl, hv1, hv2, rfl⟩
    obtain ⟨hs1, hd1⟩ := sh_left HS.out HD.out hmd v2
    have hs2 := hs1.set_sr (.inr hv1)
    have HD1 := Lib.hid (heap_past (k := 9) (u := v1) hd1 hmd)
    have HV2 := Lib.hid hv2
    have qa := hs2.at_srs
    have qaz := hs2.frozen 8
    have HS2 := Lib.hid hs2
    clear hs1 hs2 hd1 hv2 hv1
    go_wp2_with fail
    exact ⟨rfl, (((Fs.refl [m, dB] w).setCell dB 0 v2 (by simp)).setCell m 9 _ (by simp)).setCell m 8 _ (by simp), .inr ⟨_, _, by simp [shExt, HR.out], ⟨rfl, rfl, rfl, rfl, rfl, rfl⟩, (HS2.out.set_srs true), .inr ⟨rfl, v2, heap_past HD1.out hmd, HV2.out⟩⟩⟩

set_option maxRecDepth 100000 in
set_option maxHeartbeats 4000000 in
theorem sw_43 {w : World} {base : Nat} {C : Array Value} {g m dB : Nat} {T : TypeId} {fr : Nat × Nat} {f : SH} {d : List UInt8} {vd k5 k6 k7 : Value} (z : Nat → Value) (hS : SHAt w base C g m f) (hg : w.heap[g]? = some (.cells C T fr))
    (hd : w.heap[dB]? = some (.cells #[vd] 152 (0, 0))) (hv : View C g vd d) (hgm : g ≠ m) (hgd : g ≠ dB) (hmd : m ≠ dB) (hb : base ≤ w.heap.size) :
    Code.wp Try.prog shSwitch (SwOut w base C g m dB k5 k6 k7 f 43 d) ⟨#[.pointer (some ⟨m, 0, none⟩), z 1, z 2, z 3, z 4, k5, k6, k7, z 8, .pointer (some ⟨dB, 0, none⟩), z 10, z 11, z 12, z 13, z 14, z 15, z 16, z 17, z 18, z 19, z 20, z 21, z 22, z 23, z 24, z 25, z 26, z 27, z 28, z 29, z 30, z 31, z 32, z 33, z 34, z 35, z 36, z 37, z 38, z 39, z 40, z 41, z 42, z 43, z 44, z 45, z 46, z 47, z 48, z 49, z 50, z 51, z 52, z 53, z 54, z 55, z 56, z 57, z 58, z 59, z 60, z 61, z 62, z 63, z 64, z 65, z 66, z 67, z 68, z 69, z 70, z 71, z 72, z 73, z 74, z 75, z 76, z 77, z 78, z 79, .int .u16 43, z 81, z 82, z 83, z 84, z 85, z 86, z 87, z 88, z 89, z 90, z 91, z 92, z 93, z 94, z 95, z 96, z 97, z 98, z 99, z 100, z 101, z 102, z 103, z 104, z 105, z 106, z 107, z 108, z 109, z 110, z 111, z 112, z 113, z 114, z 115, z 116, z 117, z 118, z 119, z 120, z 121, z 122, z 123, z 124, z 125, z 126, z 127, z 128, z 129, z 130, z 131, z 132, z 133, z 134, z 135, z 136, z 137, z 138, z 139, z 140, z 141, z 142, z 143, z 144, z 145, z 146, z 147, z 148, z 149, z 150, z 151, z 152, z 153, z 154, z 155, z 156, z 157, z 158, z 159, z 160, z 161, z 162, z 163, z 164, z 165, z 166, z 167, z 168, z 169, z 170, z 171, z 172, z 173, z 174, z 175, z 176, z 177, z 178, z 179, z 180, z 181, z 182, z 183, z 184, z 185, z 186, z 187, z 188, z 189, z 190, z 191, z 192, z 193, z 194, z 195, z 196, z 197, z 198, z 199, z 200, z 201, z 202, z 203, z 204, z 205, z 206, z 207, z 208, z 209, z 210, z 211, z 212, z 213, z 214, z 215, z 216, z 217, z 218, z 219, z 220, z 221, z 222, z 223, z 224, z 225, z 226, z 227, z 228, z 229, z 230, z 231, z 232, z 233, z 234, z 235, z 236, z 237, z 238, z 239, z 240, z 241, z 242, z 243, z 244, z 245, z 246, z 247, z 248, z 249, z 250, z 251, z 252, z 253], []⟩ w := by
  have HS := Lib.hid hS
  have HD := Lib.hid hd
  have HV := Lib.hid hv
  have HG := Lib.hid hg
  have c0 := cell_head hd
  have cz : w.frozen? ⟨dB, 0, none⟩ = false := frozen_of_heap hd
  have hdg : ¬ dB = g := fun e => hgd e.symm
  have hdm : ¬ dB = m := fun e => hmd e.symm
  have hq := hS.at_sver
  have hqz := hS.frozen 13
  clear hS hd hv hg
  conv => arg 2; whnf
  cases hr : rd 2 d with
  | none =>
    have HR := Lib.hid hr
    clear hr
    go_wp2_with fail
    refine (ru16_no ⟨dB, 0, none⟩ _ w HR.out HV.out c0).mono ?_
    rintro e w1 ⟨rfl, rfl⟩
    go_wp2_with fail
    exact ⟨rfl, Fs.refl [m, dB] w, .inl ⟨rfl, by simp [shExt, HR.out], rfl, rfl⟩⟩
  | some xr =>
    obtain ⟨x, r⟩ := xr
    have HR := Lib.hid hr
    clear hr
    go_wp2_with fail
    refine (ru16_yes ⟨dB, 0, none⟩ ⟨m, 13, none⟩ w HR.out HG.out HV.out c0 cz hq hqz hdg (by simp [hdm])).mono ?_
    rintro e w1 ⟨v2, rfl, hv2, rfl⟩
    obtain ⟨hs1, hd1⟩ := sh_left HS.out HD.out hmd v2
    have hs2 := hs1.set_sver (be x)
    have HD1 := Lib.hid (heap_past (k := 13) (u := .int .u16 (be x : Nat)) hd1 hmd)
    have HV2 := Lib.hid hv2
    have HS2 := Lib.hid hs2
    clear hs1 hs2 hd1 hv2
    go_wp2_with fail
    exact ⟨rfl, (((Fs.refl [m, dB] w).setCell dB 0 v2 (by simp)).setCell m 13 _ (by simp)).drew, .inr ⟨_, _, by simp [shExt, HR.out], ⟨rfl, rfl, rfl, rfl, rfl, rfl⟩, HS2.out.drew, .inr ⟨rfl, v2, HD1.out, HV2.out⟩⟩⟩

set_option maxRecDepth 100000 in
set_option maxHeartbeats 4000000 in
theorem sw_44 {w : World} {base : Nat} {C : Array Value} {g m dB : Nat} {T : TypeId} {fr : Nat × Nat} {f : SH} {d : List UInt8} {vd k5 k6 k7 : Value} (z : Nat → Value) (hS : SHAt w base C g m f) (hg : w.heap[g]? = some (.cells C T fr))
    (hd : w.heap[dB]? = some (.cells #[vd] 152 (0, 0))) (hv : View C g vd d) (hgm : g ≠ m) (hgd : g ≠ dB) (hmd : m ≠ dB) (hb : base ≤ w.heap.size) :
    Code.wp Try.prog shSwitch (SwOut w base C g m dB k5 k6 k7 f 44 d) ⟨#[.pointer (some ⟨m, 0, none⟩), z 1, z 2, z 3, z 4, k5, k6, k7, z 8, .pointer (some ⟨dB, 0, none⟩), z 10, z 11, z 12, z 13, z 14, z 15, z 16, z 17, z 18, z 19, z 20, z 21, z 22, z 23, z 24, z 25, z 26, z 27, z 28, z 29, z 30, z 31, z 32, z 33, z 34, z 35, z 36, z 37, z 38, z 39, z 40, z 41, z 42, z 43, z 44, z 45, z 46, z 47, z 48, z 49, z 50, z 51, z 52, z 53, z 54, z 55, z 56, z 57, z 58, z 59, z 60, z 61, z 62, z 63, z 64, z 65, z 66, z 67, z 68, z 69, z 70, z 71, z 72, z 73, z 74, z 75, z 76, z 77, z 78, z 79, .int .u16 44, z 81, z 82, z 83, z 84, z 85, z 86, z 87, z 88, z 89, z 90, z 91, z 92, z 93, z 94, z 95, z 96, z 97, z 98, z 99, z 100, z 101, z 102, z 103, z 104, z 105, z 106, z 107, z 108, z 109, z 110, z 111, z 112, z 113, z 114, z 115, z 116, z 117, z 118, z 119, z 120, z 121, z 122, z 123, z 124, z 125, z 126, z 127, z 128, z 129, z 130, z 131, z 132, z 133, z 134, z 135, z 136, z 137, z 138, z 139, z 140, z 141, z 142, z 143, z 144, z 145, z 146, z 147, z 148, z 149, z 150, z 151, z 152, z 153, z 154, z 155, z 156, z 157, z 158, z 159, z 160, z 161, z 162, z 163, z 164, z 165, z 166, z 167, z 168, z 169, z 170, z 171, z 172, z 173, z 174, z 175, z 176, z 177, z 178, z 179, z 180, z 181, z 182, z 183, z 184, z 185, z 186, z 187, z 188, z 189, z 190, z 191, z 192, z 193, z 194, z 195, z 196, z 197, z 198, z 199, z 200, z 201, z 202, z 203, z 204, z 205, z 206, z 207, z 208, z 209, z 210, z 211, z 212, z 213, z 214, z 215, z 216, z 217, z 218, z 219, z 220, z 221, z 222, z 223, z 224, z 225, z 226, z 227, z 228, z 229, z 230, z 231, z 232, z 233, z 234, z 235, z 236, z 237, z 238, z 239, z 240, z 241, z 242, z 243, z 244, z 245, z 246, z 247, z 248, z 249, z 250, z 251, z 252, z 253], []⟩ w := by
  have HS := Lib.hid hS
  have HD := Lib.hid hd
  have HV := Lib.hid hv
  have HG := Lib.hid hg
  have c0 := cell_head hd
  have cz : w.frozen? ⟨dB, 0, none⟩ = false := frozen_of_heap hd
  have hdg : ¬ dB = g := fun e => hgd e.symm
  have hdm : ¬ dB = m := fun e => hmd e.symm
  obtain ⟨vq, hq, _⟩ := hS.at_cookie
  have hqz := hS.frozen 21
  clear hS hd hv hg
  conv => arg 2; whnf
  cases hr : rdv 2 d with
  | none =>
    have HR := Lib.hid hr
    clear hr
    go_wp2_with fail
    refine (t16_no ⟨dB, 0, none⟩ _ w HR.out HG.out HV.out c0 cz hdg).mono ?_
    rintro e w1 ⟨v2, rfl, rfl⟩
    go_wp2_with fail
    exact ⟨rfl, (Fs.refl [m, dB] w).setCell dB 0 _ (by simp), .inl ⟨rfl, by simp [shExt, HR.out], rfl, rfl⟩⟩
  | some xr =>
    obtain ⟨x, r⟩ := xr
    have HR := Lib.hid hr
    clear hr
    go_wp2_with fail
    refine (t16_yes ⟨dB, 0, none⟩ ⟨m, 21, none⟩ w HR.out HG.out HV.out c0 cz hq hqz hdg (by simp [hdm])).mono ?_
    rintro e w1 ⟨v1, v2, rfl, hv1, hv2, rfl⟩
    obtain ⟨hs1, hd1⟩ := sh_left HS.out HD.out hmd v2
    have hs2 := hs1.set_cookie (.inr hv1)
    have HD1 := Lib.hid (heap_past (k := 21) (u := v1) hd1 hmd)
    have HV2 := Lib.hid hv2
    obtain ⟨off1, cap1, rfl, hl1⟩ := hv1.slice
    have c1 : ((w.setCell ⟨dB, 0, none⟩ v2).setCell ⟨m, 21, none⟩ (.slice (some ⟨g, off1, none⟩) x.length cap1)).cell? ⟨m, 21, none⟩ = some (.slice (some ⟨g, off1, none⟩) x.length cap1) := by
      obtain ⟨u, hu, _⟩ := hs1.at_cookie
      exact cell_same hu
    have HS2 := Lib.hid hs2
    clear hs1 hs2 hd1 hv1 hv2
    by_cases h0 : x = []
    · subst h0
      go_wp2_with fail
      exact ⟨rfl, ((Fs.refl [m, dB] w).setCell dB 0 v2 (by simp)).setCell m 21 _ (by simp), .inl ⟨rfl, by simp [shExt, HR.out], rfl, rfl⟩⟩
    · have hl0 : ¬ x.length = 0 := fun h => h0 (List.length_eq_zero_iff.1 h)
      have hl1 : ¬ ((x.length : Nat) : Int) = 0 := by omega
      have hl2 : (((x.length : Nat) : Int) == 0) = false := by simpa using hl0
      go_wp2_with fail
      exact ⟨rfl, ((Fs.refl [m, dB] w).setCell dB 0 v2 (by simp)).setCell m 21 _ (by simp), .inr ⟨_, _, by simp [shExt, HR.out, h0], ⟨rfl, rfl, rfl, rfl, rfl, rfl⟩, HS2.out, .inr ⟨rfl, v2, HD1.out, HV2.out⟩⟩⟩

set_option maxRecDepth 100000 in
set_option maxHeartbeats 4000000 in
theorem sw_11 {w : World} {base : Nat} {C : Array Value} {g m dB : Nat} {T : TypeId} {fr : Nat × Nat} {f : SH} {d : List UInt8} {vd k5 k6 k7 : Value} (z : Nat → Value) (hS : SHAt w base C g m f) (hg : w.heap[g]? = some (.cells C T fr))
    (hd : w.heap[dB]? = some (.cells #[vd] 152 (0, 0))) (hv : View C g vd d) (hgm : g ≠ m) (hgd : g ≠ dB) (hmd : m ≠ dB) (hb : base ≤ w.heap.size) :
    Code.wp Try.prog shSwitch (SwOut w base C g m dB k5 k6 k7 f 11 d) ⟨#[.pointer (some ⟨m, 0, none⟩), z 1, z 2, z 3, z 4, k5, k6, k7, z 8, .pointer (some ⟨dB, 0, none⟩), z 10, z 11, z 12, z 13, z 14, z 15, z 16, z 17, z 18, z 19, z 20, z 21, z 22, z 23, z 24, z 25, z 26, z 27, z 28, z 29, z 30, z 31, z 32, z 33, z 34, z 35, z 36, z 37, z 38, z 39, z 40, z 41, z 42, z 43, z 44, z 45, z 46, z 47, z 48, z 49, z 50, z 51, z 52, z 53, z 54, z 55, z 56, z 57, z 58, z 59, z 60, z 61, z 62, z 63, z 64, z 65, z 66, z 67, z 68, z 69, z 70, z 71, z 72, z 73, z 74, z 75, z 76, z 77, z 78, z 79, .int .u16 11, z 81, z 82, z 83, z 84, z 85, z 86, z 87, z 88, z 89, z 90, z 91, z 92, z 93, z 94, z 95, z 96, z 97, z 98, z 99, z 100, z 101, z 102, z 103, z 104, z 105, z 106, z 107, z 108, z 109, z 110, z 111, z 112, z 113, z 114, z 115, z 116, z 117, z 118, z 119, z 120, z 121, z 122, z 123, z 124, z 125, z 126, z 127, z 128, z 129, z 130, z 131, z 132, z 133, z 134, z 135, z 136, z 137, z 138, z 139, z 140, z 141, z 142, z 143, z 144, z 145, z 146, z 147, z 148, z 149, z 150, z 151, z 152, z 153, z 154, z 155, z 156, z 157, z 158, z 159, z 160, z 161, z 162, z 163, z 164, z 165, z 166, z 167, z 168, z 169, z 170, z 171, z 172, z 173, z 174, z 175, z 176, z 177, z 178, z 179, z 180, z 181, z 182, z 183, z 184, z 185, z 186, z 187, z 188, z 189, z 190, z 191, z 192, z 193, z 194, z 195, z 196, z 197, z 198, z 199, z 200, z 201, z 202, z 203, z 204, z 205, z 206, z 207, z 208, z 209, z 210, z 211, z 212, z 213, z 214, z 215, z 216, z 217, z 218, z 219, z 220, z 221, z 222, z 223, z 224, z 225, z 226, z 227, z 228, z 229, z 230, z 231, z 232, z 233, z 234, z 235, z 236, z 237, z 238, z 239, z 240, z 241, z 242, z 243, z 244, z 245, z 246, z 247, z 248, z 249, z 250, z 251, z 252, z 253], []⟩ w := by
  have HS := Lib.hid hS
  have HD := Lib.hid hd
  have HV := Lib.hid hv
  have HG := Lib.hid hg
  have c0 := cell_head hd
  have cz : w.frozen? ⟨dB, 0, none⟩ = false := frozen_of_heap hd
  have hdg : ¬ dB = g := fun e => hgd e.symm
  have hdm : ¬ dB = m := fun e => hmd e.symm
  obtain ⟨vq, hq, _⟩ := hS.at_pts
  have hqz := hS.frozen 18
  clear hS hd hv hg
  conv => arg 2; whnf
  cases hr : rdv 1 d with
  | none =>
    have HR := Lib.hid hr
    clear hr
    go_wp2_with fail
    refine (t8_no ⟨dB, 0, none⟩ _ w HR.out HG.out HV.out c0 cz hdg).mono ?_
    rintro e w1 ⟨v2, rfl, rfl⟩
    go_wp2_with fail
    exact ⟨rfl, (Fs.refl [m, dB] w).setCell dB 0 _ (by simp), .inl ⟨rfl, by simp [shExt, HR.out], rfl, rfl⟩⟩
  | some xr =>
    obtain ⟨x, r⟩ := xr
    have HR := Lib.hid hr
    clear hr
    go_wp2_with fail
    refine (t8_yes ⟨dB, 0, none⟩ ⟨m, 18, none⟩ w HR.out HG.out HV.out c0 cz hq hqz hdg (by simp [hdm])).mono ?_
    rintro e w1 ⟨v1, v2, rfl, hv1, hv2, rfl⟩
    obtain ⟨hs1, hd1⟩ := sh_left HS.out HD.out hmd v2
    have hs2 := hs1.set_pts (.inr hv1)
    have HD1 := Lib.hid (heap_past (k := 18) (u := v1) hd1 hmd)
    have HV2 := Lib.hid hv2
    obtain ⟨off1, cap1, rfl, hl1⟩ := hv1.slice
    have c1 : ((w.setCell ⟨dB, 0, none⟩ v2).setCell ⟨m, 18, none⟩ (.slice (some ⟨g, off1, none⟩) x.length cap1)).cell? ⟨m, 18, none⟩ = some (.slice (some ⟨g, off1, none⟩) x.length cap1) := by
      obtain ⟨u, hu, _⟩ := hs1.at_pts
      exact cell_same hu
    have HS2 := Lib.hid hs2
    clear hs1 hs2 hd1 hv1 hv2
    by_cases h0 : x = []
    · subst h0
      go_wp2_with fail
      exact ⟨rfl, ((Fs.refl [m, dB] w).setCell dB 0 v2 (by simp)).setCell m 18 _ (by simp), .inl ⟨rfl, by simp [shExt, HR.out], rfl, rfl⟩⟩
    · have hl0 : ¬ x.length = 0 := fun h => h0 (List.length_eq_zero_iff.1 h)
      have hl1 : ¬ ((x.length : Nat) : Int) = 0 := by omega
      have hl2 : (((x.length : Nat) : Int) == 0) = false := by simpa using hl0
      go_wp2_with fail
      exact ⟨rfl, ((Fs.refl [m, dB] w).setCell dB 0 v2 (by simp)).setCell m 18 _ (by simp), .inr ⟨_, _, by simp [shExt, HR.out, h0], ⟨rfl, rfl, rfl, rfl, rfl, rfl⟩, HS2.out, .inr ⟨rfl, v2, HD1.out, HV2.out⟩⟩⟩

set_option maxRecDepth 100000 in
set_option maxHeartbeats 4000000 in
theorem sw_41 {w : World} {base : Nat} {C : Array Value} {g m dB : Nat} {T : TypeId} {fr : Nat × Nat} {f : SH} {d : List UInt8} {vd k5 k6 k7 : Value} (z : Nat → Value) (hS : SHAt w base C g m f) (hg : w.heap[g]? = some (.cells C T fr))
    (hd : w.heap[dB]? = some (.cells #[vd] 152 (0, 0))) (hv : View C g vd d) (hgm : g ≠ m) (hgd : g ≠ dB) (hmd : m ≠ dB) (hb : base ≤ w.heap.size) :
    Code.wp Try.prog shSwitch (SwOut w base C g m dB k5 k6 k7 f 41 d) ⟨#[.pointer (some ⟨m, 0, none⟩), z 1, z 2, z 3, z 4, k5, k6, k7, z 8, .pointer (some ⟨dB, 0, none⟩), z 10, z 11, z 12, z 13, z 14, z 15, z 16, z 17, z 18, z 19, z 20, z 21, z 22, z 23, z 24, z 25, z 26, z 27, z 28, z 29, z 30, z 31, z 32, z 33, z 34, z 35, z 36, z 37, z 38, z 39, z 40, z 41, z 42, z 43, z 44, z 45, z 46, z 47, z 48, z 49, z 50, z 51, z 52, z 53, z 54, z 55, z 56, z 57, z 58, z 59, z 60, z 61, z 62, z 63, z 64, z 65, z 66, z 67, z 68, z 69, z 70, z 71, z 72, z 73, z 74, z 75, z 76, z 77, z 78, z 79, .int .u16 41, z 81, z 82, z 83, z 84, z 85, z 86, z 87, z 88, z 89, z 90, z 91, z 92, z 93, z 94, z 95, z 96, z 97, z 98, z 99, z 100, z 101, z 102, z 103, z 104, z 105, z 106, z 107, z 108, z 109, z 110, z 111, z 112, z 113, z 114, z 115, z 116, z 117, z 118, z 119, z 120, z 121, z 122, z 123, z 124, z 125, z 126, z 127, z 128, z 129, z 130, z 131, z 132, z 133, z 134, z 135, z 136, z 137, z 138, z 139, z 140, z 141, z 142, z 143, z 144, z 145, z 146, z 147, z 148, z 149, z 150, z 151, z 152, z 153, z 154, z 155, z 156, z 157, z 158, z 159, z 160, z 161, z 162, z 163, z 164, z 165, z 166, z 167, z 168, z 169, z 170, z 171, z 172, z 173, z 174, z 175, z 176, z 177, z 178, z 179, z 180, z 181, z 182, z 183, z 184, z 185, z 186, z 187, z 188, z 189, z 190, z 191, z 192, z 193, z 194, z 195, z 196, z 197, z 198, z 199, z 200, z 201, z 202, z 203, z 204, z 205, z 206, z 207, z 208, z 209, z 210, z 211, z 212, z 213, z 214, z 215, z 216, z 217, z 218, z 219, z 220, z 221, z 222, z 223, z 224, z 225, z 226, z 227, z 228, z 229, z 230, z 231, z 232, z 233, z 234, z 235, z 236, z 237, z 238, z 239, z 240, z 241, z 242, z 243, z 244, z 245, z 246, z 247, z 248, z 249, z 250, z 251, z 252, z 253], []⟩ w := by
  have HS := Lib.hid hS
  have HD := Lib.hid hd
  have HV := Lib.hid hv
  have HG := Lib.hid hg
  have c0 := cell_head hd
  have cz : w.frozen? ⟨dB, 0, none⟩ = false := frozen_of_heap hd
  have hdg : ¬ dB = g := fun e => hgd e.symm
  have hdm : ¬ dB = m := fun e => hmd e.symm
  have qb := hS.at_sip
  have qbz := hS.frozen 16
  have hq := hS.at_sid
  have hqz := hS.frozen 17
  clear hS hd hv hg
  conv => arg 2; whnf
  have hs0 := HS.out.set_sip true
  have HS0 := Lib.hid hs0
  have HD0 := Lib.hid (heap_past (k := 16) (u := Value.bool true) HD.out hmd)
  have HG0 := Lib.hid (heap_past (m := m) (k := 16) (u := Value.bool true) HG.out (fun e => hgm e.symm))
  have hq2 := hs0.at_sid
  have hqz2 := hs0.frozen 17
  have c02 := cell_head HD0.out
  have cz2 : (w.setCell ⟨m, 16, none⟩ (.bool true)).frozen? ⟨dB, 0, none⟩ = false := frozen_of_heap HD0.out
  clear hs0
  cases hr : rd 2 d with
  | none =>
    have HR := Lib.hid hr
    clear hr
    go_wp2_with fail
    refine (ru16_no ⟨dB, 0, none⟩ _ (w.setCell ⟨m, 16, none⟩ (.bool true)) HR.out HV.out c02).mono ?_
    rintro e w1 ⟨rfl, rfl⟩
    go_wp2_with fail
    exact ⟨rfl, (Fs.refl [m, dB] w).setCell m 16 (.bool true) (by simp), .inl ⟨rfl, by simp [shExt, HR.out], rfl, rfl⟩⟩
  | some xr =>
    obtain ⟨x, r⟩ := xr
    have HR := Lib.hid hr
    clear hr
    go_wp2_with fail
    refine (ru16_yes ⟨dB, 0, none⟩ ⟨m, 17, none⟩ (w.setCell ⟨m, 16, none⟩ (.bool true)) HR.out HG0.out HV.out c02 cz2 hq2 hqz2 hdg (by simp [hdm])).mono ?_
    rintro e w1 ⟨v2, rfl, hv2, rfl⟩
    obtain ⟨hs1, hd1⟩ := sh_left HS0.out HD0.out hmd v2
    have hs2 := hs1.set_sid (be x)
    have HD1 := Lib.hid (heap_past (k := 17) (u := .int .u16 (be x : Nat)) hd1 hmd)
    have HV2 := Lib.hid hv2
    have HS2 := Lib.hid hs2
    clear hs1 hs2 hd1 hv2
    go_wp2_with fail
    exact ⟨rfl, ((((Fs.refl [m, dB] w).setCell m 16 (.bool true) (by simp)).setCell dB 0 v2 (by simp)).setCell m 17 _ (by simp)).drew, .inr ⟨_, _, by simp [shExt, HR.out], ⟨rfl, rfl, rfl, rfl, rfl, rfl⟩, HS2.out.drew, .inr ⟨rfl, v2, HD1.out, HV2.out⟩⟩⟩

set_option maxRecDepth 100000 in
set_option maxHeartbeats 4000000 in
theorem sw_other {w : World} {base : Nat} {C : Array Value} {g m dB : Nat} {T : TypeId} {fr : Nat × Nat} {f : SH} {d : List UInt8} {vd k5 k6 k7 : Value} (z : Nat → Value) (ty : Nat) (hty : ty ≠ 5 ∧ ty ≠ 35 ∧ ty ≠ 65281 ∧ ty ≠ 23 ∧ ty ≠ 16 ∧ ty ≠ 18 ∧ ty ≠ 43 ∧ ty ≠ 44 ∧ ty ≠ 51 ∧ ty ≠ 41 ∧ ty ≠ 11 ∧ ty ≠ 65037 ∧ ty ≠ 0) (hS : SHAt w base C g m f) (hg : w.heap[g]? = some (.cells C T fr))
    (hd : w.heap[dB]? = some (.cells #[vd] 152 (0, 0))) (hv : View C g vd d) (hgm : g ≠ m) (hgd : g ≠ dB) (hmd : m ≠ dB) (hb : base ≤ w.heap.size) :
    Code.wp Try.prog shSwitch (SwOut w base C g m dB k5 k6 k7 f ty d) ⟨#[.pointer (some ⟨m, 0, none⟩), z 1, z 2, z 3, z 4, k5, k6, k7, z 8, .pointer (some ⟨dB, 0, none⟩), z 10, z 11, z 12, z 13, z 14, z 15, z 16, z 17, z 18, z 19, z 20, z 21, z 22, z 23, z 24, z 25, z 26, z 27, z 28, z 29, z 30, z 31, z 32, z 33, z 34, z 35, z 36, z 37, z 38, z 39, z 40, z 41, z 42, z 43, z 44, z 45, z 46, z 47, z 48, z 49, z 50, z 51, z 52, z 53, z 54, z 55, z 56, z 57, z 58, z 59, z 60, z 61, z 62, z 63, z 64, z 65, z 66, z 67, z 68, z 69, z 70, z 71, z 72, z 73, z 74, z 75, z 76, z 77, z 78, z 79, .int .u16 ty, z 81, z 82, z 83, z 84, z 85, z 86, z 87, z 88, z 89, z 90, z 91, z 92, z 93, z 94, z 95, z 96, z 97, z 98, z 99, z 100, z 101, z 102, z 103, z 104, z 105, z 106, z 107, z 108, z 109, z 110, z 111, z 112, z 113, z 114, z 115, z 116, z 117, z 118, z 119, z 120, z 121, z 122, z 123, z 124, z 125, z 126, z 127, z 128, z 129, z 130, z 131, z 132, z 133, z 134, z 135, z 136, z 137, z 138, z 139, z 140, z 141, z 142, z 143, z 144, z 145, z 146, z 147, z 148, z 149, z 150, z 151, z 152, z 153, z 154, z 155, z 156, z 157, z 158, z 159, z 160, z 161, z 162, z 163, z 164, z 165, z 166, z 167, z 168, z 169, z 170, z 171, z 172, z 173, z 174, z 175, z 176, z 177, z 178, z 179, z 180, z 181, z 182, z 183, z 184, z 185, z 186, z 187, z 188, z 189, z 190, z 191, z 192, z 193, z 194, z 195, z 196, z 197, z 198, z 199, z 200, z 201, z 202, z 203, z 204, z 205, z 206, z 207, z 208, z 209, z 210, z 211, z 212, z 213, z 214, z 215, z 216, z 217, z 218, z 219, z 220, z 221, z 222, z 223, z 224, z 225, z 226, z 227, z 228, z 229, z 230, z 231, z 232, z 233, z 234, z 235, z 236, z 237, z 238, z 239, z 240, z 241, z 242, z 243, z 244, z 245, z 246, z 247, z 248, z 249, z 250, z 251, z 252, z 253], []⟩ w := by
  have HS := Lib.hid hS
  have HD := Lib.hid hd
  have HV := Lib.hid hv
  have HG := Lib.hid hg
  have c0 := cell_head hd
  have cz : w.frozen? ⟨dB, 0, none⟩ = false := frozen_of_heap hd
  have hdg : ¬ dB = g := fun e => hgd e.symm
  have hdm : ¬ dB = m := fun e => hmd e.symm
  obtain ⟨n5, n35, n65281, n23, n16, n18, n43, n44, n51, n41, n11, n65037, n0⟩ := hty
  have q5 : ¬ ((ty : Nat) : Int) = 5 := by omega
  have q35 : ¬ ((ty : Nat) : Int) = 35 := by omega
  have q65281 : ¬ ((ty : Nat) : Int) = 65281 := by omega
  have q23 : ¬ ((ty : Nat) : Int) = 23 := by omega
  have q16 : ¬ ((ty : Nat) : Int) = 16 := by omega
  have q18 : ¬ ((ty : Nat) : Int) = 18 := by omega
  have q43 : ¬ ((ty : Nat) : Int) = 43 := by omega
  have q44 : ¬ ((ty : Nat) : Int) = 44 := by omega
  have q51 : ¬ ((ty : Nat) : Int) = 51 := by omega
  have q41 : ¬ ((ty : Nat) : Int) = 41 := by omega
  have q11 : ¬ ((ty : Nat) : Int) = 11 := by omega
  have q65037 : ¬ ((ty : Nat) : Int) = 65037 := by omega
  have q0 : ¬ ((ty : Nat) : Int) = 0 := by omega
  have hx : Hid (shExt f ty d = some (f, [])) := Lib.hid (by unfold shExt; simp only [n5, n35, n65281, n23, n16, n18, n43, n44, n51, n41, n11, n65037, n0, if_false])
  clear hS hd hv hg n5 n35 n65281 n23 n16 n18 n43 n44 n51 n41 n11 n65037 n0
  conv => arg 2; whnf
  go_wp2_with fail
  exact ⟨rfl, Fs.refl _ w, .inr ⟨f, [], hx.out, ⟨rfl, rfl, rfl, rfl, rfl, rfl⟩, HS.out, .inl ⟨rfl, rfl⟩⟩⟩

set_option maxRecDepth 100000 in
set_option maxHeartbeats 4000000 in
theorem sw_65037 {w : World} {base : Nat} {C : Array Value} {g m dB : Nat} {T : TypeId} {fr : Nat × Nat} {f : SH} {d : List UInt8} {vd k5 k6 k7 : Value} (z : Nat → Value) (hsz : d.length ≤ 281474976710656) (hS : SHAt w base C g m f) (hg : w.heap[g]? = some (.cells C T fr))
    (hd : w.heap[dB]? = some (.cells #[vd] 152 (0, 0))) (hv : View C g vd d) (hgm : g ≠ m) (hgd : g ≠ dB) (hmd : m ≠ dB) (hb : base ≤ w.heap.size) :
    Code.wp Try.prog shSwitch (SwOut w base C g m dB k5 k6 k7 f 65037 d) ⟨#[.pointer (some ⟨m, 0, none⟩), z 1, z 2, z 3, z 4, k5, k6, k7, z 8, .pointer (some ⟨dB, 0, none⟩), z 10, z 11, z 12, z 13, z 14, z 15, z 16, z 17, z 18, z 19, z 20, z 21, z 22, z 23, z 24, z 25, z 26, z 27, z 28, z 29, z 30, z 31, z 32, z 33, z 34, z 35, z 36, z 37, z 38, z 39, z 40, z 41, z 42, z 43, z 44, z 45, z 46, z 47, z 48, z 49, z 50, z 51, z 52, z 53, z 54, z 55, z 56, z 57, z 58, z 59, z 60, z 61, z 62, z 63, z 64, z 65, z 66, z 67, z 68, z 69, z 70, z 71, z 72, z 73, z 74, z 75, z 76, z 77, z 78, z 79, .int .u16 65037, z 81, z 82, z 83, z 84, z 85, z 86, z 87, z 88, z 89, z 90, z 91, z 92, z 93, z 94, z 95, z 96, z 97, z 98, z 99, z 100, z 101, z 102, z 103, z 104, z 105, z 106, z 107, z 108, z 109, z 110, z 111, z 112, z 113, z 114, z 115, z 116, z 117, z 118, z 119, z 120, z 121, z 122, z 123, z 124, z 125, z 126, z 127, z 128, z 129, z 130, z 131, z 132, z 133, z 134, z 135, z 136, z 137, z 138, z 139, z 140, z 141, z 142, z 143, z 144, z 145, z 146, z 147, z 148, z 149, z 150, z 151, z 152, z 153, z 154, z 155, z 156, z 157, z 158, z 159, z 160, z 161, z 162, z 163, z 164, z 165, z 166, z 167, z 168, z 169, z 170, z 171, z 172, z 173, z 174, z 175, z 176, z 177, z 178, z 179, z 180, z 181, z 182, z 183, z 184, z 185, z 186, z 187, z 188, z 189, z 190, z 191, z 192, z 193, z 194, z 195, z 196, z 197, z 198, z 199, z 200, z 201, z 202, z 203, z 204, z 205, z 206, z 207, z 208, z 209, z 210, z 211, z 212, z 213, z 214, z 215, z 216, z 217, z 218, z 219, z 220, z 221, z 222, z 223, z 224, z 225, z 226, z 227, z 228, z 229, z 230, z 231, z 232, z 233, z 234, z 235, z 236, z 237, z 238, z 239, z 240, z 241, z 242, z 243, z 244, z 245, z 246, z 247, z 248, z 249, z 250, z 251, z 252, z 253], []⟩ w := by
  have HS := Lib.hid hS
  have HD := Lib.hid hd
  have HV := Lib.hid hv
  have HG := Lib.hid hg
  have c0 := cell_head hd
  have cz : w.frozen? ⟨dB, 0, none⟩ = false := frozen_of_heap hd
  have hdg : ¬ dB = g := fun e => hgd e.symm
  have hdm : ¬ dB = m := fun e => hmd e.symm
  obtain ⟨vq, hq, _⟩ := hS.at_ech
  have hqz := hS.frozen 19
  have hml := hS.lt
  have hdl := lt_of_heap hd
  have hgl := lt_of_heap hg
  obtain ⟨n, hn⟩ : ∃ n, n = d.length := ⟨_, rfl⟩
  have hmk := make_row w n (by omega)
  obtain ⟨Z, hZ⟩ : ∃ Z, Z = (List.replicate n (Value.int .u8 0)).toArray := ⟨_, rfl⟩
  rw [← hZ] at hmk
  obtain ⟨wA, hA⟩ : ∃ x, x = w.alloc (.cells Z 5) := ⟨_, rfl⟩
  rw [← hA] at hmk
  have hAh : wA.heap[w.heap.size]? = some (.cells Z 5 (0, 0)) := by rw [hA]; exact heap_alloc_new _ _
  have hAf : Fs [] w wA := by rw [hA]; exact (Fs.refl [] w).push _
  have hAs := hS.fs hAf (by simp) (Odd.nil _)
  have hAd := (hAf.keep dB hdl (by simp)).trans hd
  have hAg := (hAf.keep g hgl (by simp)).trans hg
  have hq1 : wA.cell? ⟨m, 19, none⟩ = some vq := by
    rw [← hq]
    exact World.cell?_of_block (hAf.keep m hml (by simp))
  have hqz1 := hAs.frozen 19
  obtain ⟨u, hu⟩ : ∃ u, u = Value.slice (some ⟨w.heap.size, 0, none⟩) n n := ⟨_, rfl⟩
  have hmr : ¬ m = w.heap.size := by omega
  have hgr : g ≠ w.heap.size := by omega
  have hdr : dB ≠ w.heap.size := by omega
  have hSS := HS
  have hAl := lt_of_heap hAh
  have HCP : Hid (Calls Try.prog 103 #[.pointer (some ⟨dB, 0, none⟩), u] (wA.setCell ⟨m, 19, none⟩ u) fun e w' => ∃ v2, e = .returned (.bool true) ∧ View C g v2 [] ∧
      w'.heap[dB]? = some (.cells #[v2] 152 (0, 0)) ∧ SHAt w' base C g m { f with ech := d } ∧ Fs [m, dB] w w') := by
    rw [hu, hn]
    refine (copyB_ok (p := dB) (h := w.heap.size) (g := g) _ (heap_past hAg (fun e => hgm e.symm)) HV.out (heap_past hAd hmd) (heap_past (by rw [hAh, hZ, hn]) hmr) hgd hdr hgr).mono ?_
    rintro e w1 ⟨v2, rfl, hv2, hd2, hh2, hf2⟩
    refine ⟨v2, rfl, hv2, hd2, ?_, ?_⟩
    · refine hSS.out.put_ech ((((hAf.mono (l' := [w.heap.size, m, dB]) (by simp)).set m 19 _ (by simp)).trans (hf2.mono (by simp))).fresh (Nat.le_refl _)) (Odd.cons HD.out (by decide) (by decide) (Odd.nil _)) (fun D T' fr' hD => ?_) (.inr ⟨w.heap.size, rfl, hb, hh2⟩)
      rw [hf2.keep m (by simp [World.setCell]; omega) (by simp; omega)]
      exact heap_set_same ((hAf.keep m hml (by simp)).trans hD)
    · exact ((((hAf.mono (l' := [w.heap.size, m, dB]) (by simp)).set m 19 _ (by simp)).trans (hf2.mono (by simp))).fresh (Nat.le_refl _))
  have HQ2 : Hid ((wA.setCell ⟨m, 19, none⟩ u).cell? ⟨m, 19, none⟩ = some u) := cell_same hq1
  have q2 := HQ2.out
  have hus : u = .slice (some ⟨w.heap.size, 0, none⟩) n n := hu
  rw [hu] at HCP q2
  have hn2 := Lib.hid hn
  obtain ⟨off, cap, rfl, hvl⟩ := hv.slice
  rw [← hn] at c0
  clear hS hd hv hg hn hZ hA hAh hAf hAs hAd hAg hu hus hq HQ2
  conv => arg 2; whnf
  go_wp2_with fail
  refine HCP.out.mono ?_
  rintro e w1 ⟨v2, rfl, hv2, hd2, hs2, hf2⟩
  have HV2 := Lib.hid hv2
  have HD2 := Lib.hid hd2
  have HS2 := Lib.hid hs2
  have HF2 := Lib.hid hf2
  clear hv2 hd2 hs2 hf2
  go_wp2_with fail
  exact ⟨rfl, HF2.out, .inr ⟨_, _, rfl, ⟨rfl, rfl, rfl, rfl, rfl, rfl⟩, HS2.out, .inr ⟨rfl, v2, HD2.out, HV2.out⟩⟩⟩

set_option maxRecDepth 100000 in
set_option maxHeartbeats 4000000 in
theorem sw_51 {w : World} {base : Nat} {C : Array Value} {g m dB : Nat} {T : TypeId} {fr : Nat × Nat} {f : SH} {d : List UInt8} {vd k5 k6 k7 : Value} (z : Nat → Value) (hS : SHAt w base C g m f) (hg : w.heap[g]? = some (.cells C T fr))
    (hd : w.heap[dB]? = some (.cells #[vd] 152 (0, 0))) (hv : View C g vd d) (hgm : g ≠ m) (hgd : g ≠ dB) (hmd : m ≠ dB) (hb : base ≤ w.heap.size) :
    Code.wp Try.prog shSwitch (SwOut w base C g m dB k5 k6 k7 f 51 d) ⟨#[.pointer (some ⟨m, 0, none⟩), z 1, z 2, z 3, z 4, k5, k6, k7, z 8, .pointer (some ⟨dB, 0, none⟩), z 10, z 11, z 12, z 13, z 14, z 15, z 16, z 17, z 18, z 19, z 20, z 21, z 22, z 23, z 24, z 25, z 26, z 27, z 28, z 29, z 30, z 31, z 32, z 33, z 34, z 35, z 36, z 37, z 38, z 39, z 40, z 41, z 42, z 43, z 44, z 45, z 46, z 47, z 48, z 49, z 50, z 51, z 52, z 53, z 54, z 55, z 56, z 57, z 58, z 59, z 60, z 61, z 62, z 63, z 64, z 65, z 66, z 67, z 68, z 69, z 70, z 71, z 72, z 73, z 74, z 75, z 76, z 77, z 78, z 79, .int .u16 51, z 81, z 82, z 83, z 84, z 85, z 86, z 87, z 88, z 89, z 90, z 91, z 92, z 93, z 94, z 95, z 96, z 97, z 98, z 99, z 100, z 101, z 102, z 103, z 104, z 105, z 106, z 107, z 108, z 109, z 110, z 111, z 112, z 113, z 114, z 115, z 116, z 117, z 118, z 119, z 120, z 121, z 122, z 123, z 124, z 125, z 126, z 127, z 128, z 129, z 130, z 131, z 132, z 133, z 134, z 135, z 136, z 137, z 138, z 139, z 140, z 141, z 142, z 143, z 144, z 145, z 146, z 147, z 148, z 149, z 150, z 151, z 152, z 153, z 154, z 155, z 156, z 157, z 158, z 159, z 160, z 161, z 162, z 163, z 164, z 165, z 166, z 167, z 168, z 169, z 170, z 171, z 172, z 173, z 174, z 175, z 176, z 177, z 178, z 179, z 180, z 181, z 182, z 183, z 184, z 185, z 186, z 187, z 188, z 189, z 190, z 191, z 192, z 193, z 194, z 195, z 196, z 197, z 198, z 199, z 200, z 201, z 202, z 203, z 204, z 205, z 206, z 207, z 208, z 209, z 210, z 211, z 212, z 213, z 214, z 215, z 216, z 217, z 218, z 219, z 220, z 221, z 222, z 223, z 224, z 225, z 226, z 227, z 228, z 229, z 230, z 231, z 232, z 233, z 234, z 235, z 236, z 237, z 238, z 239, z 240, z 241, z 242, z 243, z 244, z 245, z 246, z 247, z 248, z 249, z 250, z 251, z 252, z 253], []⟩ w := by
  have HS := Lib.hid hS
  have HD := Lib.hid hd
  have HV := Lib.hid hv
  have HG := Lib.hid hg
  have c0 := cell_head hd
  have cz : w.frozen? ⟨dB, 0, none⟩ = false := frozen_of_heap hd
  have hdg : ¬ dB = g := fun e => hgd e.symm
  have hdm : ¬ dB = m := fun e => hmd e.symm
  obtain ⟨off, cap, rfl, hvl⟩ := hv.slice
  have hq22 := hS.at_selg
  have hqz22 := hS.frozen 22
  have hq14 := hS.at_sgroup
  have hqz14 := hS.frozen 14
  by_cases hl2 : d.length = 2
  · have hr : rd 2 d = some (d, []) := by rw [show d = d ++ [] by simp, ← hl2]; simpa using rd_append d []
    have HR := Lib.hid hr
    have HL := Lib.hid hl2
    clear hS hd hv hg hr hl2
    rw [HL.out] at c0
    conv => arg 2; whnf
    go_wp2_with fail
    refine (ru16_yes ⟨dB, 0, none⟩ ⟨m, 22, none⟩ w HR.out HG.out (HL.out ▸ HV.out) c0 cz hq22 hqz22 hdg (by simp [hdm])).mono ?_
    rintro e w1 ⟨v2, rfl, hv2, rfl⟩
    obtain ⟨hs1, hd1⟩ := sh_left HS.out HD.out hmd v2
    have HS2 := Lib.hid (hs1.set_selg (be d))
    have HD1 := Lib.hid (heap_past (k := 22) (u := .int .u16 (be d : Nat)) hd1 hmd)
    have HV2 := Lib.hid hv2
    clear hs1 hd1 hv2
    go_wp2_with fail
    exact ⟨rfl, (((Fs.refl [m, dB] w).setCell dB 0 v2 (by simp)).setCell m 22 _ (by simp)).drew, .inr ⟨_, _, by simp [shExt, HL.out, HR.out], ⟨rfl, rfl, rfl, rfl, rfl, rfl⟩, HS2.out.drew, .inr ⟨rfl, v2, HD1.out, HV2.out⟩⟩⟩
  · have hl3 : (((d.length : Nat) : Int) == 2) = false := by
      rw [beq_eq_false_iff_ne]; omega
    have hl4 : ¬ ((d.length : Nat) : Int) = 2 := by omega
    have HL := Lib.hid hl2
    clear hl2
    cases hr : rd 2 d with
    | none =>
      have HR := Lib.hid hr
      clear hS hd hv hg hr
      conv => arg 2; whnf
      go_wp2_with fail
      refine (ru16_no ⟨dB, 0, none⟩ _ w HR.out HV.out c0).mono ?_
      rintro e w1 ⟨rfl, rfl⟩
      go_wp2_with fail
      exact ⟨rfl, Fs.refl [m, dB] w, .inl ⟨rfl, by simp [shExt, HL.out, HR.out], rfl, rfl⟩⟩
    | some xr =>
      obtain ⟨x, r⟩ := xr
      have HR := Lib.hid hr
      clear hS hd hv hg hr
      conv => arg 2; whnf
      go_wp2_with fail
      refine (ru16_yes ⟨dB, 0, none⟩ ⟨m, 14, none⟩ w HR.out HG.out HV.out c0 cz hq14 hqz14 hdg (by simp [hdm])).mono ?_
      rintro e w1 ⟨v2, rfl, hv2, rfl⟩
      obtain ⟨hs1, hd1⟩ := sh_left HS.out HD.out hmd v2
      have hs2 := (hs1.set_sgroup (be x)).drew
      have hd2 : (((w.setCell ⟨dB, 0, none⟩ v2).setCell ⟨m, 14, none⟩ (.int .u16 (be x : Nat))).drew).heap[dB]? = some (.cells #[v2] 152 (0, 0)) := heap_past hd1 hmd
      have hg2 : (((w.setCell ⟨dB, 0, none⟩ v2).setCell ⟨m, 14, none⟩ (.int .u16 (be x : Nat))).drew).heap[g]? = some (.cells C T fr) := heap_past (heap_past HG.out hdg) (fun e => hgm e.symm)
      obtain ⟨vq, hq15, _⟩ := hs2.at_sdata
      have hqz15 := hs2.frozen 15
      have c02 := cell_head hd2
      have cz2 : (((w.setCell ⟨dB, 0, none⟩ v2).setCell ⟨m, 14, none⟩ (.int .u16 (be x : Nat))).drew).frozen? ⟨dB, 0, none⟩ = false := frozen_of_heap hd2
      have HS2 := Lib.hid hs2
      have HD2 := Lib.hid hd2
      have HG2 := Lib.hid hg2
      have HV2 := Lib.hid hv2
      have HF2 : Hid (Fs [m, dB] w (((w.setCell ⟨dB, 0, none⟩ v2).setCell ⟨m, 14, none⟩ (.int .u16 (be x : Nat))).drew)) := (((Fs.refl [m, dB] w).setCell dB 0 v2 (by simp)).setCell m 14 _ (by simp)).drew
      clear hs1 hd1 hs2 hd2 hg2 hv2
      cases hr2 : rdv 2 r with
      | none =>
        have HR2 := Lib.hid hr2
        clear hr2
        go_wp2_with fail
        refine (t16_no ⟨dB, 0, none⟩ _ _ HR2.out HG2.out HV2.out c02 cz2 hdg).mono ?_
        rintro e w1 ⟨v3, rfl, rfl⟩
        go_wp2_with fail
        exact ⟨rfl, HF2.out.setCell dB 0 _ (by simp), .inl ⟨rfl, by simp [shExt, HL.out, HR.out, HR2.out], rfl, rfl⟩⟩
      | some yr =>
        obtain ⟨y, r2⟩ := yr
        have HR2 := Lib.hid hr2
        clear hr2
        go_wp2_with fail
        refine (t16_yes ⟨dB, 0, none⟩ ⟨m, 15, none⟩ _ HR2.out HG2.out HV2.out c02 cz2 hq15 hqz15 hdg (by simp [hdm])).mono ?_
        rintro e w1 ⟨v3, v4, rfl, hv3, hv4, rfl⟩
        obtain ⟨hs3, hd3⟩ := sh_left HS2.out HD2.out hmd v4
        have HS4 := Lib.hid (hs3.set_sdata (.inr hv3))
        have HD4 := Lib.hid (heap_past (k := 15) (u := v3) hd3 hmd)
        have HV4 := Lib.hid hv4
        clear hs3 hd3 hv3 hv4
        go_wp2_with fail
        exact ⟨rfl, (HF2.out.setCell dB 0 v4 (by simp)).setCell m 15 _ (by simp), .inr ⟨_, _, by simp [shExt, HL.out, HR.out, HR2.out], ⟨rfl, rfl, rfl, rfl, rfl, rfl⟩, HS4.out, .inr ⟨rfl, v4, HD4.out, HV4.out⟩⟩⟩

set_option maxRecDepth 100000 in
set_option maxHeartbeats 4000000 in
theorem sw_16 {w : World} {base : Nat} {C : Array Value} {g m dB : Nat} {T : TypeId} {fr : Nat × Nat} {f : SH} {d : List UInt8} {vd k5 k6 k7 : Value} (z : Nat → Value) (hS : SHAt w base C g m f) (hg : w.heap[g]? = some (.cells C T fr))
    (hd : w.heap[dB]? = some (.cells #[vd] 152 (0, 0))) (hv : View C g vd d) (hgm : g ≠ m) (hgd : g ≠ dB) (hmd : m ≠ dB) (hb : base ≤ w.heap.size) :
    Code.wp Try.prog shSwitch (SwOut w base C g m dB k5 k6 k7 f 16 d) ⟨#[.pointer (some ⟨m, 0, none⟩), z 1, z 2, z 3, z 4, k5, k6, k7, z 8, .pointer (some ⟨dB, 0, none⟩), z 10, z 11, z 12, z 13, z 14, z 15, z 16, z 17, z 18, z 19, z 20, z 21, z 22, z 23, z 24, z 25, z 26, z 27, z 28, z 29, z 30, z 31, z 32, z 33, z 34, z 35, z 36, z 37, z 38, z 39, z 40, z 41, z 42, z 43, z 44, z 45, z 46, z 47, z 48, z 49, z 50, z 51, z 52, z 53, z 54, z 55, z 56, z 57, z 58, z 59, z 60, z 61, z 62, z 63, z 64, z 65, z 66, z 67, z 68, z 69, z 70, z 71, z 72, z 73, z 74, z 75, z 76, z 77, z 78, z 79, .int .u16 16, z 81, z 82, z 83, z 84, z 85, z 86, z 87, z 88, z 89, z 90, z 91, z 92, z 93, z 94, z 95, z 96, z 97, z 98, z 99, z 100, z 101, z 102, z 103, z 104, z 105, z 106, z 107, z 108, z 109, z 110, z 111, z 112, z 113, z 114, z 115, z 116, z 117, z 118, z 119, z 120, z 121, z 122, z 123, z 124, z 125, z 126, z 127, z 128, z 129, z 130, z 131, z 132, z 133, z 134, z 135, z 136, z 137, z 138, z 139, z 140, z 141, z 142, z 143, z 144, z 145, z 146, z 147, z 148, z 149, z 150, z 151, z 152, z 153, z 154, z 155, z 156, z 157, z 158, z 159, z 160, z 161, z 162, z 163, z 164, z 165, z 166, z 167, z 168, z 169, z 170, z 171, z 172, z 173, z 174, z 175, z 176, z 177, z 178, z 179, z 180, z 181, z 182, z 183, z 184, z 185, z 186, z 187, z 188, z 189, z 190, z 191, z 192, z 193, z 194, z 195, z 196, z 197, z 198, z 199, z 200, z 201, z 202, z 203, z 204, z 205, z 206, z 207, z 208, z 209, z 210, z 211, z 212, z 213, z 214, z 215, z 216, z 217, z 218, z 219, z 220, z 221, z 222, z 223, z 224, z 225, z 226, z 227, z 228, z 229, z 230, z 231, z 232, z 233, z 234, z 235, z 236, z 237, z 238, z 239, z 240, z 241, z 242, z 243, z 244, z 245, z 246, z 247, z 248, z 249, z 250, z 251, z 252, z 253], []⟩ w := by
  have HS := Lib.hid hS
  have HD := Lib.hid hd
  have HV := Lib.hid hv
  have HG := Lib.hid hg
  have c0 := cell_head hd
  have cz : w.frozen? ⟨dB, 0, none⟩ = false := frozen_of_heap hd
  have hdg : ¬ dB = g := fun e => hgd e.symm
  have hdm : ¬ dB = m := fun e => hmd e.symm
  have hml := hS.lt
  have hdl := lt_of_heap hd
  have hgl := lt_of_heap hg
  have hml2 : m ≠ w.heap.size := by omega
  have hdl2 : dB ≠ w.heap.size := by omega
  have hgl2 : g ≠ w.heap.size := by omega
  cases hr : rdv 2 d with
  | none =>
    have HR := Lib.hid hr
    clear hS hd hv hg hr c0 cz
    conv => arg 2; whnf
    go_wp2_with fail
    refine (r16_not _ _ HR.out (heap_push HG.out) HV.out (heap_push HD.out) hgd).mono ?_
    rintro e w1 ⟨rfl, hf1⟩
    have HF1 := Lib.hid hf1
    clear hf1
    go_wp2_with fail
    exact ⟨rfl, (((Fs.refl [m, dB] w).push _).trans (HF1.out.mono (by simp))), .inl ⟨rfl, by simp [shExt, HR.out], rfl, rfl⟩⟩
  | some lr =>
    obtain ⟨l, r⟩ := lr
    have HR := Lib.hid hr
    have HO := Lib.hid (Odd.cons hd (by decide) (by decide) (Odd.nil w))
    clear hS hd hv hg hr c0 cz
    conv => arg 2; whnf
    go_wp2_with fail
    refine (r16_at _ HR.out (heap_push HG.out) HV.out (heap_push HD.out) (heap_alloc_new w _) hgd hdl2).mono ?_
    rintro e w1 ⟨v1, v2, rfl, hv1, hv2, hd1, hl1, hf1⟩
    obtain ⟨lB, hlB⟩ : ∃ x, x = w.heap.size := ⟨_, rfl⟩
    rw [← hlB] at hl1 hf1 hml2 hdl2 hgl2 ⊢
    have hs1 := hf1.size
    have hf1' : Fs [lB, dB] w w1 := ((Fs.refl [lB, dB] w).push _).trans (hf1.mono (by simp))
    have hf1 : Fs [dB] w w1 := hf1'.fresh (by omega)
    have HSS := Lib.hid (HS.out.fs hf1 (by simpa using hmd) HO.out)
    have HG1 := Lib.hid ((hf1.keep g hgl (by simpa using hgd)).trans HG.out)
    have HD1 := Lib.hid hd1
    have HL1 := Lib.hid hl1
    have HV1 := Lib.hid hv1
    have HV2 := Lib.hid hv2
    have HF1 := Lib.hid (hf1.mono (l' := [m, dB]) (by simp))
    have cl := cell_head hl1
    have hdl1 := lt_of_heap hd1
    have hll1 := lt_of_heap hl1
    have hsz1 := hf1.size
    have hlw : w.heap.size ≤ lB := by omega
    clear hlB hd1 hl1 hv1 hv2 hf1' hf1 hs1
    go_wp2_with fail
    refine (empty_any _ HV1.out).mono ?_
    rintro e w2 ⟨rfl, rfl⟩
    by_cases h0 : l = []
    · subst h0
      simp only [List.isEmpty_nil]
      go_wp2_with fail
      exact ⟨rfl, HF1.out, .inl ⟨rfl, by simp [shExt, HR.out], rfl, rfl⟩⟩
    · have he0 : l.isEmpty = false := by simpa using h0
      rw [he0]
      clear he0
      cases hr2 : rdv 1 l with
      | none =>
        have HR2 := Lib.hid hr2
        clear hr2
        go_wp2_with fail
        refine (r8_not _ _ HR2.out (heap_push HG1.out) HV1.out (heap_push HL1.out) hgl2).mono ?_
        rintro e w3 ⟨rfl, hf3⟩
        have HF3 : Hid (Fs [m, dB] w w3) := (((HF1.out.mono (l' := [lB, m, dB]) (by simp)).push _).trans (hf3.mono (by simp))).fresh (by omega)
        clear hf3
        go_wp2_with fail
        exact ⟨rfl, HF3.out, .inl ⟨rfl, by simp [shExt, HR.out, h0, HR2.out], rfl, rfl⟩⟩
      | some xr =>
        obtain ⟨x, r2⟩ := xr
        have HR2 := Lib.hid hr2
        clear hr2
        go_wp2_with fail
        refine (r8_at _ HR2.out (heap_push HG1.out) HV1.out (heap_push HL1.out) (heap_alloc_new w1 _) hgl2 (by omega)).mono ?_
        rintro e w3 ⟨v3, v4, rfl, hv3, hv4, hl3, hp3, hf3⟩
        obtain ⟨pB, hpB⟩ : ∃ x, x = w1.heap.size := ⟨_, rfl⟩
        rw [← hpB] at hp3 hf3 ⊢
        have hf3' : Fs [pB, lB] w1 w3 := ((Fs.refl [pB, lB] w1).push _).trans (hf3.mono (by simp))
        have hf3 : Fs [lB] w1 w3 := hf3'.fresh (by omega)
        have HSS3 := Lib.hid (HSS.out.fs hf3 (by simpa using hml2) (Odd.cons HL1.out (by decide) (by decide) (Odd.nil _)))
        have HG3 := Lib.hid ((hf3.keep g (by omega) (by simpa using hgl2)).trans HG1.out)
        have HD3 := Lib.hid ((hf3.keep dB hdl1 (by simpa using hdl2)).trans HD1.out)
        have HF3 : Hid (Fs [m, dB] w w3) := ((HF1.out.mono (l' := [lB, m, dB]) (by simp)).trans (hf3.mono (by simp))).fresh (by omega)
        have cl3 := cell_head hl3
        have cp3 := cell_head hp3
        have hcv := convS_ok (vn_src (.inr hv3) HG3.out).src
        have hq11 := HSS3.out.at_alpn
        have hqz11 := HSS3.out.frozen 11
        have HV3 := Lib.hid hv3
        have HV4 := Lib.hid hv4
        clear hpB hl3 hp3 hv3 hv4 hf3' hf3 cl
        go_wp2_with fail
        refine (empty_any _ HV3.out).mono ?_
        rintro e w4 ⟨rfl, rfl⟩
        by_cases h1 : x = []
        · subst h1
          simp only [List.isEmpty_nil]
          go_wp2_with fail
          exact ⟨rfl, HF3.out, .inl ⟨rfl, by simp [shExt, HR.out, h0, HR2.out], rfl, rfl⟩⟩
        · have he1 : x.isEmpty = false := by simpa using h1
          rw [he1]
          clear he1
          go_wp2_with fail
          refine (empty_any _ HV4.out).mono ?_
          rintro e w5 ⟨rfl, rfl⟩
          by_cases h2 : r2 = []
          · subst h2
            simp only [List.isEmpty_nil]
            go_wp2_with fail
            exact ⟨rfl, HF3.out.setCell m 11 _ (by simp), .inr ⟨_, _, by simp [shExt, HR.out, h0, HR2.out, h1], ⟨rfl, rfl, rfl, rfl, rfl, rfl⟩, HSS3.out.set_alpn x, .inr ⟨rfl, v2, heap_past HD3.out hmd, HV2.out⟩⟩⟩
          · have he2 : r2.isEmpty = false := by simpa using h2
            rw [he2]
            clear he2
            go_wp2_with fail
            exact ⟨rfl, HF3.out, .inl ⟨rfl, by simp [shExt, HR.out, h0, HR2.out, h2], rfl, rfl⟩⟩

set_option maxRecDepth 100000 in
set_option maxHeartbeats 4000000 in
theorem sw_18 {w : World} {base : Nat} {C : Array Value} {g m dB : Nat} {T : TypeId} {fr : Nat × Nat} {f : SH} {d : List UInt8} {vd k5 k6 k7 : Value} (z : Nat → Value) (hsz : d.length ≤ 16777216) (hf0 : f.scts = []) (hS : SHAt w base C g m f) (hg : w.heap[g]? = some (.cells C T fr))
    (hd : w.heap[dB]? = some (.cells #[vd] 152 (0, 0))) (hv : View C g vd d) (hgm : g ≠ m) (hgd : g ≠ dB) (hmd : m ≠ dB) (hb : base ≤ w.heap.size) :
    Code.wp Try.prog shSwitch (SwOut w base C g m dB k5 k6 k7 f 18 d) ⟨#[.pointer (some ⟨m, 0, none⟩), z 1, z 2, z 3, z 4, k5, k6, k7, z 8, .pointer (some ⟨dB, 0, none⟩), z 10, z 11, z 12, z 13, z 14, z 15, z 16, z 17, z 18, z 19, z 20, z 21, z 22, z 23, z 24, z 25, z 26, z 27, z 28, z 29, z 30, z 31, z 32, z 33, z 34, z 35, z 36, z 37, z 38, z 39, z 40, z 41, z 42, z 43, z 44, z 45, z 46, z 47, z 48, z 49, z 50, z 51, z 52, z 53, z 54, z 55, z 56, z 57, z 58, z 59, z 60, z 61, z 62, z 63, z 64, z 65, z 66, z 67, z 68, z 69, z 70, z 71, z 72, z 73, z 74, z 75, z 76, z 77, z 78, z 79, .int .u16 18, z 81, z 82, z 83, z 84, z 85, z 86, z 87, z 88, z 89, z 90, z 91, z 92, z 93, z 94, z 95, z 96, z 97, z 98, z 99, z 100, z 101, z 102, z 103, z 104, z 105, z 106, z 107, z 108, z 109, z 110, z 111, z 112, z 113, z 114, z 115, z 116, z 117, z 118, z 119, z 120, z 121, z 122, z 123, z 124, z 125, z 126, z 127, z 128, z 129, z 130, z 131, z 132, z 133, z 134, z 135, z 136, z 137, z 138, z 139, z 140, z 141, z 142, z 143, z 144, z 145, z 146, z 147, z 148, z 149, z 150, z 151, z 152, z 153, z 154, z 155, z 156, z 157, z 158, z 159, z 160, z 161, z 162, z 163, z 164, z 165, z 166, z 167, z 168, z 169, z 170, z 171, z 172, z 173, z 174, z 175, z 176, z 177, z 178, z 179, z 180, z 181, z 182, z 183, z 184, z 185, z 186, z 187, z 188, z 189, z 190, z 191, z 192, z 193, z 194, z 195, z 196, z 197, z 198, z 199, z 200, z 201, z 202, z 203, z 204, z 205, z 206, z 207, z 208, z 209, z 210, z 211, z 212, z 213, z 214, z 215, z 216, z 217, z 218, z 219, z 220, z 221, z 222, z 223, z 224, z 225, z 226, z 227, z 228, z 229, z 230, z 231, z 232, z 233, z 234, z 235, z 236, z 237, z 238, z 239, z 240, z 241, z 242, z 243, z 244, z 245, z 246, z 247, z 248, z 249, z 250, z 251, z 252, z 253], []⟩ w := by
  have HS := Lib.hid hS
  have HD := Lib.hid hd
  have HV := Lib.hid hv
  have HG := Lib.hid hg
  have c0 := cell_head hd
  have cz : w.frozen? ⟨dB, 0, none⟩ = false := frozen_of_heap hd
  have hdg : ¬ dB = g := fun e => hgd e.symm
  have hdm : ¬ dB = m := fun e => hmd e.symm
  have HF0 := Lib.hid hf0
  clear hf0
  obtain ⟨i0, hi, hz0, hz1, hz2⟩ := info_parts Try.info22
  have hml := hS.lt
  have hdl := lt_of_heap hd
  have hgl := lt_of_heap hg
  have hml2 : m ≠ w.heap.size := by omega
  have hdl2 : dB ≠ w.heap.size := by omega
  have hgl2 : g ≠ w.heap.size := by omega
  cases hr : rdv 2 d with
  | none =>
    have HR := Lib.hid hr
    clear hS hd hv hg hr c0 cz
    conv => arg 2; whnf
    go_wp2_with fail
    refine (r16_not _ _ HR.out (heap_push HG.out) HV.out (heap_push HD.out) hgd).mono ?_
    rintro e w1 ⟨rfl, hf1⟩
    have HF1 := Lib.hid hf1
    clear hf1
    go_wp2_with fail
    exact ⟨rfl, (((Fs.refl [m, dB] w).push _).trans (HF1.out.mono (by simp))), .inl ⟨rfl, by simp [shExt, HR.out], rfl, rfl⟩⟩
  | some lr =>
    obtain ⟨l, r⟩ := lr
    have HR := Lib.hid hr
    have HO := Lib.hid (Odd.cons hd (by decide) (by decide) (Odd.nil w))
    clear hS hd hv hg hr c0 cz
    conv => arg 2; whnf
    go_wp2_with fail
    refine (r16_at _ HR.out (heap_push HG.out) HV.out (heap_push HD.out) (heap_alloc_new w _) hgd hdl2).mono ?_
    rintro e w1 ⟨v1, v2, rfl, hv1, hv2, hd1, hl1, hf1⟩
    obtain ⟨lB, hlB⟩ : ∃ x, x = w.heap.size := ⟨_, rfl⟩
    rw [← hlB] at hl1 hf1 hml2 hdl2 hgl2 ⊢
    have hs1 := hf1.size
    have hf1' : Fs [lB, dB] w w1 := ((Fs.refl [lB, dB] w).push _).trans (hf1.mono (by simp))
    have hf1 : Fs [dB] w w1 := hf1'.fresh (by omega)
    have HSS := Lib.hid (HS.out.fs hf1 (by simpa using hmd) HO.out)
    have HG1 := Lib.hid ((hf1.keep g hgl (by simpa using hgd)).trans HG.out)
    have HD1 := Lib.hid hd1
    have HL1 := Lib.hid hl1
    have HV1 := Lib.hid hv1
    have HV2 := Lib.hid hv2
    have HF1 := Lib.hid (hf1.mono (l' := [m, dB]) (by simp))
    have cl := cell_head hl1
    have hdl1 := lt_of_heap hd1
    have hll1 := lt_of_heap hl1
    have hsz1 := hf1.size
    have hlw : w.heap.size ≤ lB := by omega
    clear hlB hd1 hl1 hv1 hv2 hf1' hf1 hs1
    go_wp2_with fail
    refine (empty_any _ HV1.out).mono ?_
    rintro e w2 ⟨rfl, rfl⟩
    by_cases h0 : l = []
    · subst h0
      simp only [List.isEmpty_nil]
      go_wp2_with fail
      exact ⟨rfl, HF1.out, .inl ⟨rfl, by simp [shExt, HR.out], rfl, rfl⟩⟩
    · have he0 : l.isEmpty = false := by simpa using h0
      rw [he0]
      clear he0
      have hln : l.length ≤ d.length := by
        have h := (rdv_some HR.out).1
        rw [h]; simp; omega
      have HH0 := Lib.hid h0
      clear h0
      go_wp2_with fail
      go_loopw [] (fun wr => ∃ (don : List (List UInt8)) (s : List UInt8) (n : Nat), SHAt wr base C g m { f with scts := don } ∧ (∃ v, wr.cell? ⟨m, 12, none⟩ = some v ∧ ∀ k, v.ownBlock = some k → w1.heap.size ≤ k) ∧ (∃ vs, wr.heap[lB]? = some (.cells #[vs] 152 (0, 0)) ∧ View C g vs s) ∧ s.length ≤ n ∧
        (tvecs 2 n s).map (don ++ ·) = tvecs 2 l.length l ∧ Fs [m, lB] w1 wr ∧ don.length + s.length ≤ l.length) (fun wr => cellLen wr lB)
      case atStart =>
        obtain ⟨v, hv, hvn⟩ := HSS.out.at_scts
        refine ⟨[], l, l.length, ?_, ⟨v, hv, fun k hk => ?_⟩, ⟨v1, HL1.out, HV1.out⟩, Nat.le_refl _, by simp, Fs.refl _ _, by simp⟩
        · have h := HSS.out
          have e : { f with scts := [] } = f := by cases f; simp at HF0; simp [HF0.out]
          rw [e]; exact h
        · rcases hvn with ⟨_, e⟩ | ⟨e, _⟩
          · rw [e] at hk; cases hk
          · exact absurd HF0.out e
      case round =>
        obtain ⟨L, s, n, hs, ⟨vo, hvo, hvlt⟩, ⟨vs, hl, hvs⟩, hn, htv, hf, hlen⟩ := hrel
        have HVO := Lib.hid hvo
        have HVLT := Lib.hid hvlt
        clear hvo hvlt
        have hLb : L.length ≤ 16777216 := by omega
        have hml1 := HSS.out.lt
        have hszf := hf.size
        have HSr := Lib.hid hs
        have HLr := Lib.hid hl
        have HVr := Lib.hid hvs
        have HTV := Lib.hid htv
        have HFr := Lib.hid hf
        have HGr := Lib.hid ((hf.keep g (by omega) (by simp; omega)).trans HG1.out)
        have HDr := Lib.hid ((hf.keep dB hdl1 (by simp; omega)).trans HD1.out)
        have clr := cell_head hl
        clear hs hl hvs htv hf
        go_wp2_with fail
        refine (empty_any _ HVr.out).mono ?_
        rintro e w2 ⟨rfl, rfl⟩
        have HFw : Hid (Fs [m, dB] w wr) := ((HF1.out.mono (l' := [lB, m, dB]) (by simp)).trans (HFr.out.mono (by simp))).fresh (by omega)
        by_cases hs0 : s = []
        · subst hs0
          have hT : tvecs 2 l.length l = some L := by
            have h := HTV.out
            have hz : tvecs 2 n ([] : List UInt8) = some [] := by cases n <;> rfl
            rw [hz] at h
            simpa using h.symm
          have HT := Lib.hid hT
          clear hT
          simp only [List.isEmpty_nil]
          go_wp2_with fail
          exact ⟨rfl, HFw.out, .inr ⟨_, _, by simp [shExt, HR.out, HH0.out, HT.out, HF0.out], ⟨rfl, rfl, rfl, rfl, rfl, rfl⟩, HSr.out, .inr ⟨rfl, v2, HDr.out, HV2.out⟩⟩⟩
        · have he0 : s.isEmpty = false := by simpa using hs0
          rw [he0]
          obtain ⟨n, rfl⟩ : ∃ n', n = n' + 1 := ⟨n - 1, by have := List.length_pos_iff.2 hs0; omega⟩
          have htv := tvecs_succ (k := 2) (n := n) hs0
          have HTV2 := Lib.hid htv
          clear htv he0
          have hlr := lt_of_heap HLr.out
          cases hr2 : rdv 2 s with
          | none =>
            have hx : shExt f 18 d = none := by
              have h := HTV.out
              rw [HTV2.out, hr2] at h
              simp [shExt, HR.out, HH0.out, ← h]
            have HX := Lib.hid hx
            have HR2 := Lib.hid hr2
            clear hr2 hx
            go_wp2_with fail
            refine (t16_not _ _ HR2.out (heap_push HGr.out) HVr.out (heap_push HLr.out) hgl2).mono ?_
            rintro e w3 ⟨rfl, hf3⟩
            have HF3 : Hid (Fs [m, dB] w w3) := (((HFw.out.mono (l' := [lB, m, dB]) (by simp)).push _).trans (hf3.mono (by simp))).fresh (by omega)
            clear hf3
            go_wp2_with fail
            exact ⟨rfl, HF3.out, .inl ⟨rfl, HX.out, rfl, rfl⟩⟩
          | some xr =>
            obtain ⟨x, r3⟩ := xr
            have hxr := (rdv_some hr2).1
            have hxl : s.length = 2 + x.length + r3.length := by rw [hxr]; simp [en_length]; omega
            have htv : (if x = [] then none else (tvecs 2 n r3).map (x :: ·)).map (L ++ ·) = tvecs 2 l.length l := by
              rw [← HTV.out, HTV2.out, hr2]; rfl
            have HTV3 := Lib.hid htv
            have HR2 := Lib.hid hr2
            clear hr2 htv hxr
            go_wp2_with fail
            refine (t16_at _ HR2.out (heap_push HGr.out) HVr.out (heap_push HLr.out) (heap_alloc_new wr _) hgl2 (by omega)).mono ?_
            rintro e w3 ⟨v3, v4, rfl, hv3, hv4, hl3, he3, hf3⟩
            obtain ⟨eB, heB⟩ : ∃ y, y = wr.heap.size := ⟨_, rfl⟩
            rw [← heB] at he3 hf3 ⊢
            have hf3' : Fs [eB, lB] wr w3 := ((Fs.refl [eB, lB] wr).push _).trans (hf3.mono (by simp))
            have hf3 : Fs [lB] wr w3 := hf3'.fresh (by omega)
            obtain ⟨ox, cx, rfl, hxb⟩ := hv3.slice
            have hS3 := HSr.out.fs hf3 (by simpa using hml2) (Odd.cons HLr.out (by decide) (by decide) (Odd.nil _))
            have HF3 : Hid (Fs [m, dB] w w3) := ((HFw.out.mono (l' := [lB, m, dB]) (by simp)).trans (hf3.mono (by simp))).fresh (by omega)
            have HF31 : Hid (Fs [m, lB] w1 w3) := HFr.out.trans (hf3.mono (by simp))
            have ce3 := cell_head he3
            obtain ⟨vsc, q12r, hvsc⟩ := HSr.out.at_scts
            have qz12 := hS3.frozen 12
            have hvlt : ∀ k, vsc.ownBlock = some k → w1.heap.size ≤ k := by
              have h := HVO.out
              rw [q12r] at h
              cases h
              exact HVLT.out
            have hvsc3 := hvsc.fs hf3 (Odd.cons HLr.out (by decide) (by decide) (Odd.nil _))
            obtain ⟨usr, hownr, _⟩ := hvsc.out
            have hlt := hownr.lt
            obtain ⟨us, hown0, hus⟩ := hvsc3.out
            obtain ⟨ao, co, rfl⟩ := row_slice hown0
            have hown : w3.ownsRow w1.heap.size 22 1 (.slice ao L.length co) L.length us := by
              refine ⟨hown0.1, ?_⟩
              rcases hown0.2 with h | ⟨p, cap, cur, hv, hpb, r⟩
              · exact .inl h
              · exact .inr ⟨p, cap, cur, hv, hvlt p (by rw [hv]; rfl), r⟩
            have q12 : w3.cell? ⟨m, 12, none⟩ = some (.slice ao L.length co) := (World.cell?_of_block (hf3.keep m HSr.out.lt (by simpa using hml2))).trans q12r
            have hne : Hid ((Value.slice ao L.length co).ownBlock ≠ some eB) := fun e => by
              have := (hlt eB e).2
              omega
            clear hownr hlt q12r hown0 hvlt hvsc hvsc3
            have hszz := hf3.size
            have heb : base ≤ w3.heap.size := by omega
            have hmeq : ¬ eB = m := by omega
            have HS3 := Lib.hid hS3
            have HL3 := Lib.hid hl3
            have HE3 := Lib.hid he3
            have HV3 := Lib.hid hv3
            have HV4 := Lib.hid hv4
            have HO := Lib.hid hown
            have HUS := Lib.hid hus
            have hel := lt_of_heap he3
            have hll3 := lt_of_heap hl3
            clear hl3 he3 hv3 hv4 hf3' hf3 hS3 hown hus clr heB
            by_cases hx0 : x = []
            · subst hx0
              have hx : shExt f 18 d = none := by
                have h := HTV3.out
                simp at h
                simp [shExt, HR.out, HH0.out, ← h]
              have HX := Lib.hid hx
              clear hx
              go_wp2_with fail
              exact ⟨rfl, HF3.out, .inl ⟨rfl, HX.out, rfl, rfl⟩⟩
            · have hxn : ¬ x.length = 0 := fun h => hx0 (List.length_eq_zero_iff.1 h)
              have hx1 : ¬ ((x.length : Nat) : Int) = 0 := by omega
              have hx2 : (((x.length : Nat) : Int) == 0) = false := by simpa using hxn
              have HTV4 : Hid (((tvecs 2 n r3).map (x :: ·)).map (L ++ ·) = tvecs 2 l.length l) := by
                have h := HTV3.out
                rwa [if_neg hx0] at h
              have HX0 := Lib.hid hx0
              clear hx0
              go_wp2_with fail
              refine region_ord [(0, true), (1, true), (2, true), (3, true), (4, true), (5, true), (6, false), (7, false), (8, true), (9, true), (10, false)] (fun w' => w'.cell? ⟨m, 12, none⟩ = some (.slice ao L.length co) ∧ w'.cell? ⟨eB, 0, none⟩ = some (.slice (some ⟨g, ox, none⟩) x.length cx)) mixed (by kernel_rfl) (by kernel_rfl) rfl (fun c' a' d' v' w' h => (SwOut_panic (w := w) (base := base) (C := C) (g := g) (m := m) (dB := dB) (k5 := k5) (k6 := k6) (k7 := k7) (f := f) (ty := 18) (d := d) (c := c') (a := a'.put d' v') (w' := w') h).elim) ⟨q12, ce3⟩ ?_
              iterate 6 (apply wpOrd_pure rfl rfl; apply Exists.intro; refine ⟨fun w' hS => ?_, ?_⟩; (· (have hS1 := hS.1; have hS2 := hS.2; clear hS; first | (go_simp; done) | (go_simp; with_reducible rfl))); simp only [List.getElem_toArray, List.getElem_cons_succ, List.getElem_cons_zero, Act.put, List.setIfInBounds_toArray, List.set_cons_zero, List.set_cons_succ])
              refine wpOrd_run rfl rfl (fun K hK => ?_)
              go_simp
              refine hK _ _ (fun _ => ⟨(World.cell?_alloc_lt _ _ _ HS3.out.lt).trans q12, (World.cell?_alloc_lt _ _ _ hel).trans ce3⟩) ?_
              clear hK K
              refine wpOrd_run rfl rfl (fun K hK => ?_)
              refine wp_append_own _ (.tmp 152) (.tmp 154) 29 rfl w1.heap.size 22 i0 (.slice none 0 0) 1 24 Try.underlying29 hi hz0 hz1 hz2 rfl (by decide) (.slice ao L.length co) L.length us rfl (HO.out.alloc _) ⟨w3.heap.size, 0, none⟩ 1 1 [.slice (some ⟨g, ox, none⟩) x.length cx] rfl rfl ?_ ?_ ?_ ?_ ?_ ?_
              · intro j u hu
                match j, hu with
                | 0, hu => simp at hu; subst hu; exact World.cell?_alloc_new _ _ _ _
              · intro u hu; simp at hu; subst hu; rfl
              · unfold maxLen; omega
              · omega
              · show w1.heap.size ≤ (w3.alloc _).heap.size
                simp; omega
              intro v' w4 hown4 hgrow _
              obtain ⟨ao4, co4, rfl⟩ := row_slice hown4
              have hwA : (w3.alloc (.cells #[Value.slice (some ⟨g, ox, none⟩) x.length cx] 22)).ownsRow w1.heap.size 22 1 (.slice ao L.length co) L.length us := HO.out.alloc _
              have hk4 : ∀ (p : Nat) (D : Array Value) (T' : TypeId) (fr' : Nat × Nat), w3.heap[p]? = some (.cells D T' fr') → T' ≠ 22 → w4.heap[p]? = some (.cells D T' fr') := fun p D T' fr' hp hT =>
                grown_keep hgrow hwA (heap_push hp) (.inl hT)
              obtain ⟨D4, hD4, hD4s⟩ : ∃ D : Array Value, w3.heap[m]? = some (.cells D 131 (0, 0)) ∧ D[12]? = some (.slice ao L.length co) := by
                have hq := q12
                obtain ⟨v_orig, v_random, v_session, v_sr, v_scts, v_sdata, v_pts, v_ech, v_cookie, hh, h_orig, h_random, h_session, h_sr, h_scts, h_sdata, h_pts, h_ech, h_cookie⟩ := HS3.out
                exact ⟨_, hh, by rw [cell_of_heap hh] at hq; exact hq⟩
              have hm4 := hk4 m _ _ _ hD4 (by decide)
              have q4 : w4.cell? ⟨m, 12, none⟩ = some (.slice ao L.length co) := by rw [cell_of_heap hm4]; exact hD4s
              have qz4 : w4.frozen? ⟨m, 12, none⟩ = false := frozen_of_heap hm4
              have hd3 : w3.heap[dB]? = some (.cells #[v2] 152 (0, 0)) := by
                rw [HF31.out.keep dB hdl1 (by simp; omega)]; exact HD1.out
              have ce4 : w4.cell? ⟨eB, 0, none⟩ = some (.slice (some ⟨g, ox, none⟩) x.length cx) := by
                have h := hgrow.block eB (by simp; omega) (fun e => hne.out e.symm)
                rw [← ce3]
                exact World.cell?_of_block (h.trans (Below.heap_alloc _ _ _ hel))
              refine hK _ _ (fun _ => ⟨q4, ce4⟩) ?_
              have HGROW := Lib.hid hgrow
              have HO4 := Lib.hid hown4
              clear hK K hgrow hown4
              simp only [List.getElem_toArray, List.getElem_cons_succ, List.getElem_cons_zero, Act.put, List.setIfInBounds_toArray, List.set_cons_zero, List.set_cons_succ]
              iterate 2 (apply wpOrd_pure rfl rfl; apply Exists.intro; refine ⟨fun w' hS => ?_, ?_⟩; (· (have hS1 := hS.1; have hS2 := hS.2; clear hS; first | (go_simp; done) | (go_simp; with_reducible rfl))); simp only [List.getElem_toArray, List.getElem_cons_succ, List.getElem_cons_zero, Act.put, List.setIfInBounds_toArray, List.set_cons_zero, List.set_cons_succ])
              refine wpOrd_last rfl rfl (by kernel_rfl) (fun K hK => ?_)
              simp only [List.getElem_toArray, List.getElem_cons_succ, List.getElem_cons_zero]
              go_simp
              refine hK _ _ ?_
              refine wpOrd_nil ?_
              clear hK K
              go_wp2_with fail
              refine ⟨⟨L ++ [x], r3, n, ?_, ⟨_, cell_same q4, ?_⟩, ⟨v4, ?_, HV4.out⟩, by omega, ?_, ?_, by simp; omega⟩, ?_⟩
              · refine HS3.out.put_scts (u := .slice ao4 (L.length + 1) co4) (fun D T' fr' hD => ?_) (fun v bs hv => ?_) ?_
                · exact heap_set_same (by
                    rw [hD4] at hD
                    cases hD
                    exact hm4)
                · rcases hv with h | ⟨p, hv, hb, hh⟩
                  · exact .inl h
                  · exact .inr ⟨p, hv, hb, heap_past (hk4 p _ _ _ hh (by decide)) (fun e => by
                      rw [e] at hD4
                      rw [hD4] at hh
                      cases hh)⟩
                · refine .inr ⟨by simp, us ++ [.slice (some ⟨g, ox, none⟩) x.length cx], ?_, fun j s' hj => ?_⟩
                  · have h := ownsRow_set (c := m) (o := 12) (u := .slice ao4 (L.length + 1) co4) HO4.out hm4 (by decide)
                    have e : (L ++ [x]).length = L.length + 1 := by simp
                    rw [e]
                    exact ownsRow_mono h (by omega)
                  · have hul : us.length = L.length := by have h := HO.out.1; omega
                    by_cases hjd : j < L.length
                    · rw [List.getElem?_append_left hjd] at hj
                      obtain ⟨u, hu, hv⟩ := HUS.out j s' hj
                      exact ⟨u, by rw [List.getElem?_append_left (by omega)]; exact hu, hv⟩
                    · rw [List.getElem?_append_right (by omega)] at hj
                      have h0j : j - L.length = 0 := by
                        have := (List.getElem?_eq_some_iff.1 hj).1
                        simp at this
                        omega
                      rw [h0j] at hj
                      simp only [List.getElem?_cons_zero, Option.some.injEq] at hj
                      subst hj
                      exact ⟨_, by rw [List.getElem?_append_right (by omega), hul, h0j]; rfl, .inr HV3.out⟩
              · exact fun k hk => (HO4.out.lt k hk).1
              · exact heap_past (hk4 lB _ _ _ HL3.out (by decide)) hml2
              · rw [← HTV4.out]
                cases tvecs 2 n r3 <;> simp
              · refine Fs.set ⟨HGROW.out.os.trans HF31.out.os, HGROW.out.tape.trans HF31.out.tape, HGROW.out.output.trans HF31.out.output, ?_, fun k hk hn => ?_⟩ m 12 _ (by simp)
                · have h := HGROW.out.size; have h2 := HF31.out.size; simp at h; omega
                · have h2 := HF31.out.size
                  exact (HGROW.out.block k (by simp; omega) (fun e => by have := (HO.out.lt k e.symm).1; omega)).trans ((Below.heap_alloc _ _ _ (by omega)).trans (HF31.out.keep k hk hn))
              · rw [cellLen_of (heap_past (hk4 lB _ _ _ HL3.out (by decide)) hml2) HV4.out, cellLen_of HLr.out HVr.out]
                omega

end Go.Proofs.Ytopcljikkdlffaa
