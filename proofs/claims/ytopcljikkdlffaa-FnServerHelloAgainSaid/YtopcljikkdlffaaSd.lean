/- The switch of a ServerHello's unmarshal, whole. No statement of the seat is proved here. -/
import Derived.Test.YtopcljikkdlffaaSc
import Derived.Test.YtopcljikkdlffaaMp
namespace Go.Proofs.Ytopcljikkdlffaa
open Go.RowKit

theorem arr_fun (n : Nat) (s : Array Value) (h : s.size = n) : ∃ z : Nat → Value, s = ((List.range n).map z).toArray := by
  refine ⟨fun i => s.getD i undef, Array.ext (by simp [h]) fun i h1 h2 => ?_⟩
  simp [h1]

set_option maxRecDepth 100000 in
theorem arr254 (s : Array Value) (h : s.size = 254) : ∃ z : Nat → Value, s = #[z 0, z 1, z 2, z 3, z 4, z 5, z 6, z 7, z 8, z 9, z 10, z 11, z 12, z 13, z 14, z 15, z 16, z 17, z 18, z 19, z 20, z 21, z 22, z 23, z 24, z 25, z 26, z 27, z 28, z 29, z 30, z 31, z 32, z 33, z 34, z 35, z 36, z 37, z 38, z 39, z 40, z 41, z 42, z 43, z 44, z 45, z 46, z 47, z 48, z 49, z 50, z 51, z 52, z 53, z 54, z 55, z 56, z 57, z 58, z 59, z 60, z 61, z 62, z 63, z 64, z 65, z 66, z 67, z 68, z 69, z 70, z 71, z 72, z 73, z 74, z 75, z 76, z 77, z 78, z 79, z 80, z 81, z 82, z 83, z 84, z 85, z 86, z 87, z 88, z 89, z 90, z 91, z 92, z 93, z 94, z 95, z 96, z 97, z 98, z 99, z 100, z 101, z 102, z 103, z 104, z 105, z 106, z 107, z 108, z 109, z 110, z 111, z 112, z 113, z 114, z 115, z 116, z 117, z 118, z 119, z 120, z 121, z 122, z 123, z 124, z 125, z 126, z 127, z 128, z 129, z 130, z 131, z 132, z 133, z 134, z 135, z 136, z 137, z 138, z 139, z 140, z 141, z 142, z 143, z 144, z 145, z 146, z 147, z 148, z 149, z 150, z 151, z 152, z 153, z 154, z 155, z 156, z 157, z 158, z 159, z 160, z 161, z 162, z 163, z 164, z 165, z 166, z 167, z 168, z 169, z 170, z 171, z 172, z 173, z 174, z 175, z 176, z 177, z 178, z 179, z 180, z 181, z 182, z 183, z 184, z 185, z 186, z 187, z 188, z 189, z 190, z 191, z 192, z 193, z 194, z 195, z 196, z 197, z 198, z 199, z 200, z 201, z 202, z 203, z 204, z 205, z 206, z 207, z 208, z 209, z 210, z 211, z 212, z 213, z 214, z 215, z 216, z 217, z 218, z 219, z 220, z 221, z 222, z 223, z 224, z 225, z 226, z 227, z 228, z 229, z 230, z 231, z 232, z 233, z 234, z 235, z 236, z 237, z 238, z 239, z 240, z 241, z 242, z 243, z 244, z 245, z 246, z 247, z 248, z 249, z 250, z 251, z 252, z 253] := by
  obtain ⟨z, hz⟩ := arr_fun 254 s h
  exact ⟨z, hz⟩

set_option maxRecDepth 100000 in
set_option maxHeartbeats 4000000 in
theorem sw_ok {w : World} {base : Nat} {C : Array Value} {g m dB : Nat} {T : TypeId} {fr : Nat × Nat} {f : SH} {d : List UInt8} {vd k5 k6 k7 : Value} {s : Array Value} (ty : Nat) (hs : s.size = 254) (h0 : s[0]? = some (.pointer (some ⟨m, 0, none⟩)))
    (h5 : s[5]? = some k5) (h6 : s[6]? = some k6) (h7 : s[7]? = some k7) (h9 : s[9]? = some (.pointer (some ⟨dB, 0, none⟩))) (h80 : s[80]? = some (.int .u16 (ty : Nat)))
    (hS : SHAt w base C g m f) (hg : w.heap[g]? = some (.cells C T fr)) (hd : w.heap[dB]? = some (.cells #[vd] 152 (0, 0))) (hv : View C g vd d) (hgm : g ≠ m) (hgd : g ≠ dB) (hmd : m ≠ dB) (hb : base ≤ w.heap.size)
    (hsz : d.length ≤ 16777216) (h18 : ty = 18 → f.scts = []) :
    Code.wp Try.prog shSwitch (SwOut w base C g m dB k5 k6 k7 f ty d) ⟨s, []⟩ w := by
  obtain ⟨z, rfl⟩ := arr254 s hs
  have e0 : z 0 = .pointer (some ⟨m, 0, none⟩) := Option.some.inj h0
  have e5 : z 5 = k5 := Option.some.inj h5
  have e6 : z 6 = k6 := Option.some.inj h6
  have e7 : z 7 = k7 := Option.some.inj h7
  have e9 : z 9 = .pointer (some ⟨dB, 0, none⟩) := Option.some.inj h9
  have e80 : z 80 = .int .u16 (ty : Nat) := Option.some.inj h80
  rw [e0, e5, e6, e7, e9, e80]
  clear hs h0 h5 h6 h7 h9 h80 e0 e5 e6 e7 e9 e80
  by_cases h5 : ty = 5
  · subst h5; exact sw_5 z hS hg hd hv hgm hgd hmd hb
  by_cases h35 : ty = 35
  · subst h35; exact sw_35 z hS hg hd hv hgm hgd hmd hb
  by_cases h65281 : ty = 65281
  · subst h65281; exact sw_65281 z hS hg hd hv hgm hgd hmd hb
  by_cases h23 : ty = 23
  · subst h23; exact sw_23 z hS hg hd hv hgm hgd hmd hb
  by_cases h16 : ty = 16
  · subst h16; exact sw_16 z hS hg hd hv hgm hgd hmd hb
  by_cases h18 : ty = 18
  · subst h18; exact sw_18 z hsz (h18 rfl) hS hg hd hv hgm hgd hmd hb
  by_cases h43 : ty = 43
  · subst h43; exact sw_43 z hS hg hd hv hgm hgd hmd hb
  by_cases h44 : ty = 44
  · subst h44; exact sw_44 z hS hg hd hv hgm hgd hmd hb
  by_cases h51 : ty = 51
  · subst h51; exact sw_51 z hS hg hd hv hgm hgd hmd hb
  by_cases h41 : ty = 41
  · subst h41; exact sw_41 z hS hg hd hv hgm hgd hmd hb
  by_cases h11 : ty = 11
  · subst h11; exact sw_11 z hS hg hd hv hgm hgd hmd hb
  by_cases h65037 : ty = 65037
  · subst h65037; exact sw_65037 z (Nat.le_trans hsz (by omega)) hS hg hd hv hgm hgd hmd hb
  by_cases h0 : ty = 0
  · subst h0; exact sw_0 z hS hg hd hv hgm hgd hmd hb
  exact sw_other z ty ⟨h5, h35, h65281, h23, h16, h18, h43, h44, h51, h41, h11, h65037, h0⟩ hS hg hd hv hgm hgd hmd hb

end Go.Proofs.Ytopcljikkdlffaa
