/- Bytes that came in, as the readers want them. No statement of the seat is proved here. -/
import Derived.Test.YtopcljikkdlffaaKz
import Derived.Test.YtopcljikkdlffaaSr
namespace Go.Proofs.Ytopcljikkdlffaa
open Go.RowKit

theorem in_row {w : World} {a : Option Addr} {len cap : Nat} {zs : List Int}
    (h : (a = none ∧ len = 0 ∧ cap = 0 ∧ zs = []) ∨ ∃ x, a = some x ∧ len ≤ cap ∧ cap ≤ maxLen ∧ zs.length = cap ∧ (∀ i, i < zs.length → w.cell? (x.add i) = some (.int .u8 (zs.getD i 0))) ∧ ∀ n ∈ zs, (Lit.int .u8 n).wf = true) :
    ∃ s : List UInt8, s.length = len ∧ s.length ≤ maxLen ∧ InB w w.heap.size (.slice a len cap) s := by
  obtain ⟨s, hsl, hs⟩ := row_src h
  rcases h with ⟨rfl, rfl, rfl, rfl⟩ | ⟨x, rfl, hl, hm, hz, hc, hw⟩
  · exact ⟨s, hsl, by omega, .inl ⟨none, 0, by rw [hsl], by omega⟩⟩
  · refine ⟨s, hsl, by omega, ?_⟩
    by_cases h4 : s.length < 4
    · exact .inl ⟨some x, cap, by rw [hsl], h4⟩
    · have h0 := hc 0 (by omega)
      have hx : ∃ (C : Array Value) (T : TypeId) (fr : Nat × Nat), w.heap[x.block]? = some (.cells C T fr) ∧ x.spot = none := by
        rw [show x.add 0 = x from rfl] at h0
        unfold World.cell? at h0
        cases hb : w.heap[x.block]? with
        | none => rw [hb] at h0; cases h0
        | some ob =>
          rw [hb] at h0
          cases ob with
          | cells C T fr =>
            refine ⟨C, T, fr, rfl, ?_⟩
            cases hs : x.spot with
            | none => rfl
            | some y => simp [hs] at h0
          | _ => cases h0
      obtain ⟨C, T, fr, hh, hsp⟩ := hx
      obtain ⟨b, o, sp⟩ := x
      simp only at hh hsp
      subst hsp
      refine .inr ⟨by omega, C, b, T, fr, lt_of_heap hh, hh, o, cap, by rw [hsl], by omega, hm, fun i hi => ?_⟩
      rcases hs with ⟨e, _⟩ | ⟨y, c', e, _, hcy⟩
      · cases e
      · simp only [Value.slice.injEq, Option.some.injEq] at e
        obtain ⟨rfl, _, _⟩ := e
        have h := hcy i (by8 (s.getD i 0)) (by simp [hi])
        rw [add_plain, cell_of_heap hh] at h
        exact h

end Go.Proofs.Ytopcljikkdlffaa
