/- Rows of slices, fields by value, a struct put together: what the walks share. No statement of the seat is proved here. -/
import Derived.Test.YtopcljikkdlffaaBv
import Derived.Test.YtopcljikkdlffaaSa
import Derived.Test.YtopcljikkdlffaaCe
import Derived.Test.YtopcljikkdlffaaSr
namespace Go.Proofs.Ytopcljikkdlffaa
open Go.RowKit

theorem SrcB.ks {w w' : World} {base q : Nat} {v : Value} {s : List UInt8} (h : SrcB w base v s) (hk : Ks base q w w') (hq : base ≤ q) : SrcB w' base v s := by
  rcases h with h | ⟨ad, cap, e, hlt, hc⟩
  · exact .inl h
  · refine .inr ⟨ad, cap, e, hlt, fun j u hu => ?_⟩
    have hs : s ≠ [] := by rintro rfl; simp at hu
    have hb := hlt hs
    have hcj := hc j u hu
    have hl := World.block_lt_of_cell? w _ hcj
    rw [add_block] at hl
    have hkeep := hk.keep ad.block hl (by omega) (.inl hb) (fun ⟨cs, fr, hcs, h8⟩ => by
      have e8 : ∃ k : Int, u = .int .u8 k := by
        rw [List.getElem?_map] at hu
        obtain ⟨x, _, rfl⟩ := Option.map_eq_some_iff.1 hu
        exact ⟨_, rfl⟩
      obtain ⟨k, rfl⟩ := e8
      unfold World.cell? at hcj
      rw [add_block, hcs] at hcj
      simp only at hcj
      split at hcj
      · cases hcj
      · exact h8 _ _ hcj)
    rw [← hcj]
    exact World.cell?_of_block (by rw [add_block]; exact hkeep)

/-- A row of slices of bytes, below base. -/
def SrcL (w : World) (base : Nat) (v : Value) (L : List (List UInt8)) : Prop :=
  (v = .slice none 0 0 ∧ L = []) ∨ ∃ h cap cur, v = .slice (some ⟨h, 0, none⟩) L.length cap ∧ h < base ∧ w.heap[h]? = some (.cells cur 22 (0, 0)) ∧ ∀ (j : Nat) (s : List UInt8), L[j]? = some s → ∃ u, cur[j]? = some u ∧ SrcB w base u s

theorem SrcL.ks {w w' : World} {base q : Nat} {v : Value} {L : List (List UInt8)} (h : SrcL w base v L) (hk : Ks base q w w') (hq : base ≤ q) : SrcL w' base v L := by
  rcases h with h | ⟨h, cap, cur, e, hlt, hh, hc⟩
  · exact .inl h
  · refine .inr ⟨h, cap, cur, e, hlt, hk.other hh (by decide) (by omega), fun j s hj => ?_⟩
    obtain ⟨u, hu, hs⟩ := hc j s hj
    exact ⟨u, hu, hs.ks hk hq⟩

theorem SrcL.len {w : World} {base : Nat} {v : Value} {L : List (List UInt8)} (h : SrcL w base v L) : ∃ ad cap, v = .slice ad L.length cap ∧ (0 < L.length → ∃ x, ad = some ⟨x, 0, none⟩) ∧ (ad.isNone = true ↔ v = .slice none 0 0) := by
  rcases h with ⟨rfl, rfl⟩ | ⟨h, cap, cur, rfl, _⟩
  · exact ⟨none, 0, rfl, fun h => by simp at h, by simp⟩
  · exact ⟨some _, cap, rfl, fun _ => ⟨_, rfl⟩, by simp⟩

theorem SrcL.at {w : World} {base len cap x : Nat} {L : List (List UInt8)} (h : SrcL w base (.slice (some ⟨x, 0, none⟩) len cap) L) {j : Nat} (hj : j < L.length) : ∃ u, w.cell? ⟨x, j, none⟩ = some u ∧ SrcB w base u L[j] := by
  rcases h with ⟨h, _⟩ | ⟨h, cap, cur, e, _, hh, hc⟩
  · cases h
  · simp only [Value.slice.injEq, Option.some.injEq, Addr.mk.injEq, and_true] at e
    obtain ⟨rfl, _, _⟩ := e
    obtain ⟨u, hu, hs⟩ := hc j _ (List.getElem?_eq_getElem hj)
    exact ⟨u, by rw [cell_of_heap hh]; exact hu, hs⟩

theorem fs_bel {w w' : World} {l : List Nat} (hf : Fs l w w') (hl : ∀ p ∈ l, w.heap.size ≤ p) : Below w.heap.size w w' :=
  ⟨hf.os, hf.tape, hf.output, hf.size, fun k hk => hf.keep k hk (fun hm => by have := hl k hm; omega)⟩

/-- A struct is put together, in a region that draws its order. -/
theorem wpStill_build {P : Program} {ops : Array Oper} {rest : List Oper} {o : Oper} {a : Act} {w : World} {Q : Act → Prop} (hgd : o.guard = none) (t : TypeId) (parts : Array (Nat × Operand)) (cells : Array Value) (ho : o.op = .build t parts)
    (hf : P.built t (parts.map fun (i, x) => (i, a.eval x)).toList = some cells) (h : wpStill P ops w Q rest (a.put o.dst (.agg cells))) : wpStill P ops w Q (o :: rest) a := by
  refine wpStill_step fun K hK => ?_
  simp only [Region.wanted, hgd, if_true]
  unfold Oper.still
  rw [exec_build t parts cells ho hf]
  exact ⟨rfl, hK _ h⟩

theorem FRel.mono {w : World} {base base' : Nat} {C : Array Value} {g : Nat} {fd : FD} {v : Value} (h : FRel w base' C g fd v) (hb : base ≤ base') : FRel w base C g fd v := by
  cases fd with
  | own e size n R =>
    obtain ⟨us, h1, h2⟩ := h
    exact ⟨us, ownsRow_mono h1 hb, h2⟩
  | any => exact h
  | val u => exact h
  | vw l => exact h
  | vn l => exact h
  | vz l => exact h

theorem srcL_of {w : World} {base B : Nat} {C : Array Value} {g : Nat} {T : TypeId} {fr : Nat × Nat} {v : Value} {L : List (List UInt8)} (h : FRel w base C g (.own 22 1 L.length (ShowL C g L)) v) (hg : w.heap[g]? = some (.cells C T fr)) (hB : w.heap.size ≤ B) :
    SrcL w B v L ∧ (v = .slice none 0 0 ↔ L = []) := by
  obtain ⟨us, hown, hR⟩ := h
  rcases hown.2 with ⟨rfl, hn⟩ | ⟨p, cap, cur, rfl, hbp, hh, hnc, _, hcs, htake⟩
  · have e := List.length_eq_zero_iff.1 hn
    exact ⟨.inl ⟨rfl, e⟩, by simp [e]⟩
  · refine ⟨.inr ⟨p, cap, cur, rfl, by have := lt_of_heap hh; omega, hh, fun j s hj => ?_⟩, by simp; intro e; have := hR.1 e; cases this⟩
    obtain ⟨u, hu, hv⟩ := hR.2 j s hj
    refine ⟨u, ?_, (vn_src hv hg).keep hB (fun _ _ => rfl)⟩
    rw [← htake, List.getElem?_take] at hu
    split at hu
    · rw [← Array.getElem?_toList]; exact hu
    · cases hu

theorem srcB_of {w : World} {base B : Nat} {C : Array Value} {g : Nat} {T : TypeId} {fr : Nat × Nat} {v : Value} {l : List UInt8} (h : FRel w base C g (.vz l) v) (hg : w.heap[g]? = some (.cells C T fr)) (hB : w.heap.size ≤ B) :
    SrcB w B v l ∧ (v = .slice none 0 0 ↔ l = []) := by
  rcases h with ⟨rfl, rfl⟩ | ⟨hl, hv⟩
  · exact ⟨.inl ⟨rfl, rfl⟩, by simp⟩
  · refine ⟨(vn_src (.inr hv) hg).keep hB (fun _ _ => rfl), ?_⟩
    obtain ⟨o, c, rfl, _⟩ := hv
    simp [hl]

theorem SrcL.lst {w : World} {base : Nat} {v : Value} {L : List (List UInt8)} (h : SrcL w base v L) : LstB w base v L := by
  rcases h with h | ⟨p, cap, cur, rfl, hlt, hh, hc⟩
  · exact .inl h
  · refine .inr ⟨_, cap, rfl, fun _ => hlt, fun j s hj => ?_⟩
    obtain ⟨u, hu, hs⟩ := hc j s hj
    refine ⟨u, ?_, hs⟩
    rw [add_plain, Nat.zero_add, cell_of_heap hh]
    exact hu

theorem SrcL.keep {w w' : World} {base base' : Nat} {v : Value} {L : List (List UInt8)} (h : SrcL w base v L) (hb : base ≤ base') (hk : ∀ k, k < base → w'.heap[k]? = w.heap[k]?) : SrcL w' base' v L := by
  rcases h with h | ⟨p, cap, cur, e, hlt, hh, hc⟩
  · exact .inl h
  · refine .inr ⟨p, cap, cur, e, by omega, (hk p hlt).trans hh, fun j s hj => ?_⟩
    obtain ⟨u, hu, hs⟩ := hc j s hj
    exact ⟨u, hu, hs.keep hb hk⟩

/-- Bytes of a row that is owned come in. -/
theorem inB_own {w : World} {base lo : Nat} {v : Value} {s : List UInt8} (h : w.ownsRow base 5 1 v s.length (s.map by8)) (h4 : 4 ≤ s.length) (hlo : w.heap.size ≤ lo) : InB w lo v s := by
  rcases h.2 with ⟨_, hn⟩ | ⟨p, cap, cur, rfl, hb, hh, hnc, hcm, hcs, htake⟩
  · omega
  · refine .inr ⟨h4, cur, p, _, _, by have := lt_of_heap hh; omega, hh, 0, cap, rfl, hnc, hcm, fun i hi => ?_⟩
    have e : (s.map by8)[i]? = some (by8 (s.getD i 0)) := by simp [hi]
    rw [← htake, List.getElem?_take] at e
    split at e
    · rw [Nat.zero_add, ← Array.getElem?_toList]; exact e
    · cases e

end Go.Proofs.Ytopcljikkdlffaa
