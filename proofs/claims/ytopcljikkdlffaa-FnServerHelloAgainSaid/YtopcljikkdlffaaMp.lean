/- A map of the numbers of extensions that were seen. No statement of the seat is proved here. -/
import Derived.Test.YtopcljikkdlffaaRt
import Derived.Maps.OwnOps
import Derived.Maps.OwnSet
namespace Go.Proofs.Ytopcljikkdlffaa
open Go.RowKit
open Go.Maps (Keyed int_keyed keyOf_int_mk)

/-- Block b is a map of the numbers that were seen. -/
def SeenAt (w : World) (b : Nat) (seen : List Nat) : Prop :=
  ∃ (n : Nat) (D : DataW Unit), w.ownsMap Try.prog 35 (plainElem Try.prog 4) b n D ∧ n ≤ seen.length ∧
    ∀ t : Nat, t < 65536 → D.atKey (.int .u16 (t : Int)) (.lit (.bool false)) = .lit (.bool (decide (t ∈ seen)))

theorem wf16 {t : Nat} (h : t < 65536) : (Lit.int .u16 (t : Int)).wf = true := by
  simp [Lit.wf, IntKind.min, IntKind.max, IntKind.signed, IntKind.bits]
  omega

set_option maxRecDepth 100000 in
theorem plainElem_bool_inv {H : Type} {v : Value} {z : DataW H × List MemPlace} (h : plainElem Try.prog 4 v = some z) : ∃ x, v = .bool x ∧ z = (.lit (.bool x), []) := by
  unfold plainElem at h
  rw [Try.underlying4] at h
  cases v <;> simp at h
  exact ⟨_, rfl, h.symm⟩

theorem zero_bool (w : World) : (zeroValue 4).run Try.prog w = .ok (.bool false) w := by
  simp [zeroValue, go_sem]
  rfl

theorem seen_new (w : World) : SeenAt (w.alloc (.map #[] 0)) w.heap.size [] :=
  ⟨0, .map [], World.ownsMap_made w _ _ _, Nat.le_refl _, fun t _ => by simp; rfl⟩

theorem seen_look {w : World} {b : Nat} {seen : List Nat} (h : SeenAt w b seen) (t : Nat) (ht : t < 65536) :
    (Instr.lookup 163 (.map (some b)) (.int .u16 (t : Int)) false).run Try.prog w = .ok (.bool (decide (t ∈ seen))) w := by
  obtain ⟨n, D, ho, _, hD⟩ := h
  obtain ⟨v, ps, hrun, hv⟩ := ho.lookup (int_keyed Try.underlying35) Try.underlying163 (z := .bool false) (by
      exact zero_bool w) (plainElem_bool Try.underlying4 false) (keyOf_int_mk Try.underlying35 (wf16 ht))
  obtain ⟨x, rfl, hx⟩ := plainElem_bool_inv hv
  rw [hD t ht] at hx
  simp only [Prod.mk.injEq, DataW.lit.injEq, Lit.bool.injEq] at hx
  rw [hrun, hx.1]

theorem seen_put {w : World} {b : Nat} {seen : List Nat} (h : SeenAt w b seen) (t : Nat) (ht : t < 65536) (hl : seen.length < 16777216) :
    ∃ w', (Instr.mapUpdate 163 (.map (some b)) (.int .u16 (t : Int)) (.bool true)).run Try.prog w = .ok () w' ∧ SeenAt w' b (t :: seen) ∧ Fs [b] w w' := by
  obtain ⟨n, D, ho, hn, hD⟩ := h
  obtain ⟨w', hrun, ho', hg⟩ := ho.update (int_keyed Try.underlying35) Try.underlying163 (by unfold maxLen; omega) (keyOf_int_mk Try.underlying35 (wf16 ht)) (plainElem_bool Try.underlying4 true)
  refine ⟨w', hrun, ⟨n + 1, _, ho', by simp; omega, fun t' ht' => ?_⟩, ⟨hg.os, hg.tape, hg.output, hg.size, fun k hk hm => hg.block k hk (fun e => hm (by simpa using e))⟩⟩
  by_cases e : t' = t
  · subst e
    rw [Maps.atKey_put_same ho.isMap (by trivial)]
    simp
  · rw [Maps.atKey_put_other (by simp; omega), hD t' ht']
    simp [e]

theorem SeenAt.fs {w w' : World} {b : Nat} {seen : List Nat} {l : List Nat} (h : SeenAt w b seen) (hf : Fs l w w') (hb : b ∉ l) : SeenAt w' b seen := by
  obtain ⟨n, D, ⟨es, clock, hh, r⟩, r2⟩ := h
  exact ⟨n, D, ⟨es, clock, (hf.keep b (Array.getElem?_eq_some_iff.1 hh).1 hb).trans hh, r⟩, r2⟩

theorem SeenAt.map {w : World} {b : Nat} {seen : List Nat} (h : SeenAt w b seen) : ∃ es k, w.heap[b]? = some (.map es k) := by
  obtain ⟨n, D, ⟨es, clock, hh, r⟩, r2⟩ := h
  exact ⟨es, clock, hh⟩

end Go.Proofs.Ytopcljikkdlffaa
