/- cryptobyte.String's readers over blocks of one cell. No statement of the seat is proved here. -/
import Derived.Test.YtopcljikkdlffaaRd
import Derived.Test.YtopcljikkdlffaaRu
namespace Go.Proofs.Ytopcljikkdlffaa
open Go.RowKit

theorem heap_past {w : World} {m k dB : Nat} {u : Value} {ob : Option Obj} (h : w.heap[dB]? = ob) (hmd : m ≠ dB) : (w.setCell ⟨m, k, none⟩ u).heap[dB]? = ob :=
  (Below.heap_setCell _ _ _ _ (fun e => hmd e.symm)).trans h
theorem cell_head {w : World} {dB : Nat} {vd : Value} {T : TypeId} {fr : Nat × Nat} (h : w.heap[dB]? = some (.cells #[vd] T fr)) : w.cell? ⟨dB, 0, none⟩ = some vd := by
  rw [cell_of_heap h]; rfl
theorem Fs.drew {l : List Nat} {a b : World} (h : Fs l a b) : Fs l a b.drew := ⟨h.os, h.tape, h.output, h.size, h.keep⟩
theorem Fs.set {l : List Nat} {a w : World} (h : Fs l a w) (m o : Nat) (u : Value) (hm : m ∈ l) : Fs l a (w.setCell ⟨m, o, none⟩ u) :=
  h.trans ⟨rfl, rfl, rfl, by simp [World.setCell], fun k _ hn => Below.heap_setCell _ _ _ _ (fun e => hn (e ▸ hm))⟩
theorem Fs.push {l : List Nat} {a w : World} (h : Fs l a w) (ob : Obj) : Fs l a (w.alloc ob) :=
  h.trans ⟨rfl, rfl, rfl, by simp, fun k hk _ => Below.heap_alloc _ _ _ hk⟩
theorem heap_push {w : World} {k : Nat} {ob x : Obj} (h : w.heap[k]? = some x) : (w.alloc ob).heap[k]? = some x := by
  have hk : k < w.heap.size := (Array.getElem?_eq_some_iff.1 h).1
  exact (Below.heap_alloc _ _ _ hk).trans h

theorem cellLen_of {w : World} {p g : Nat} {C : Array Value} {v : Value} {s : List UInt8} {T : TypeId} {fr : Nat × Nat} (h : w.heap[p]? = some (.cells #[v] T fr)) (hv : View C g v s) : cellLen w p = s.length := by
  obtain ⟨off, cap, rfl, _⟩ := hv
  unfold cellLen
  rw [cell_head h]

theorem r8_at {C : Array Value} {p q g : Nat} {T Tp Tq : TypeId} {fr : Nat × Nat} {v vq : Value} {bs x r : List UInt8} (w : World) (hr : rdv 1 bs = some (x, r)) (hg : w.heap[g]? = some (.cells C T fr)) (hV : View C g v bs)
    (hp : w.heap[p]? = some (.cells #[v] Tp (0, 0))) (hq : w.heap[q]? = some (.cells #[vq] Tq (0, 0))) (hpg : g ≠ p) (hpq : p ≠ q) :
    Calls Try.prog 101 #[.pointer (some ⟨p, 0, none⟩), .pointer (some ⟨q, 0, none⟩)] w fun e w' => ∃ v1 v2, e = .returned (.bool true) ∧ View C g v1 x ∧ View C g v2 r ∧
      w'.heap[p]? = some (.cells #[v2] Tp (0, 0)) ∧ w'.heap[q]? = some (.cells #[v1] Tq (0, 0)) ∧ Fs [p, q] w w' := by
  refine (r8_yes ⟨p, 0, none⟩ ⟨q, 0, none⟩ w hr hg hV (cell_head hp) (frozen_of_heap hp) (cell_head hq) (frozen_of_heap hq) (fun e => hpg e.symm) (by simp [hpq])).mono ?_
  rintro e w1 ⟨v1, v2, rfl, hv1, hv2, rfl⟩
  exact ⟨v1, v2, rfl, hv1, hv2, heap_past ((heap_set_same hp).trans rfl) (fun e => hpq e.symm), (heap_set_same (heap_past hq hpq)).trans rfl, ((Fs.refl _ w).set p 0 _ (by simp)).set q 0 _ (by simp)⟩
theorem r8_not {C : Array Value} {p g : Nat} {T Tp : TypeId} {fr : Nat × Nat} {v : Value} {bs : List UInt8} (qo : Option Addr) (w : World) (hr : rdv 1 bs = none) (hg : w.heap[g]? = some (.cells C T fr)) (hV : View C g v bs)
    (hp : w.heap[p]? = some (.cells #[v] Tp (0, 0))) (hpg : g ≠ p) :
    Calls Try.prog 101 #[.pointer (some ⟨p, 0, none⟩), .pointer qo] w fun e w' => e = .returned (.bool false) ∧ Fs [p] w w' := by
  refine (r8_no ⟨p, 0, none⟩ qo w hr hg hV (cell_head hp) (frozen_of_heap hp) (fun e => hpg e.symm)).mono ?_
  rintro e w1 ⟨v2, rfl, rfl⟩
  exact ⟨rfl, (Fs.refl _ w).set p 0 _ (by simp)⟩

theorem r16_at {C : Array Value} {p q g : Nat} {T Tp Tq : TypeId} {fr : Nat × Nat} {v vq : Value} {bs x r : List UInt8} (w : World) (hr : rdv 2 bs = some (x, r)) (hg : w.heap[g]? = some (.cells C T fr)) (hV : View C g v bs)
    (hp : w.heap[p]? = some (.cells #[v] Tp (0, 0))) (hq : w.heap[q]? = some (.cells #[vq] Tq (0, 0))) (hpg : g ≠ p) (hpq : p ≠ q) :
    Calls Try.prog 100 #[.pointer (some ⟨p, 0, none⟩), .pointer (some ⟨q, 0, none⟩)] w fun e w' => ∃ v1 v2, e = .returned (.bool true) ∧ View C g v1 x ∧ View C g v2 r ∧
      w'.heap[p]? = some (.cells #[v2] Tp (0, 0)) ∧ w'.heap[q]? = some (.cells #[v1] Tq (0, 0)) ∧ Fs [p, q] w w' := by
  refine (r16_yes ⟨p, 0, none⟩ ⟨q, 0, none⟩ w hr hg hV (cell_head hp) (frozen_of_heap hp) (cell_head hq) (frozen_of_heap hq) (fun e => hpg e.symm) (by simp [hpq])).mono ?_
  rintro e w1 ⟨v1, v2, rfl, hv1, hv2, rfl⟩
  exact ⟨v1, v2, rfl, hv1, hv2, heap_past ((heap_set_same hp).trans rfl) (fun e => hpq e.symm), (heap_set_same (heap_past hq hpq)).trans rfl, ((Fs.refl _ w).set p 0 _ (by simp)).set q 0 _ (by simp)⟩
theorem r16_not {C : Array Value} {p g : Nat} {T Tp : TypeId} {fr : Nat × Nat} {v : Value} {bs : List UInt8} (qo : Option Addr) (w : World) (hr : rdv 2 bs = none) (hg : w.heap[g]? = some (.cells C T fr)) (hV : View C g v bs)
    (hp : w.heap[p]? = some (.cells #[v] Tp (0, 0))) (hpg : g ≠ p) :
    Calls Try.prog 100 #[.pointer (some ⟨p, 0, none⟩), .pointer qo] w fun e w' => e = .returned (.bool false) ∧ Fs [p] w w' := by
  refine (r16_no ⟨p, 0, none⟩ qo w hr hg hV (cell_head hp) (frozen_of_heap hp) (fun e => hpg e.symm)).mono ?_
  rintro e w1 ⟨v2, rfl, rfl⟩
  exact ⟨rfl, (Fs.refl _ w).set p 0 _ (by simp)⟩

theorem r24_at {C : Array Value} {p q g : Nat} {T Tp Tq : TypeId} {fr : Nat × Nat} {v vq : Value} {bs x r : List UInt8} (w : World) (hr : rdv 3 bs = some (x, r)) (hg : w.heap[g]? = some (.cells C T fr)) (hV : View C g v bs)
    (hp : w.heap[p]? = some (.cells #[v] Tp (0, 0))) (hq : w.heap[q]? = some (.cells #[vq] Tq (0, 0))) (hpg : g ≠ p) (hpq : p ≠ q) :
    Calls Try.prog 142 #[.pointer (some ⟨p, 0, none⟩), .pointer (some ⟨q, 0, none⟩)] w fun e w' => ∃ v1 v2, e = .returned (.bool true) ∧ View C g v1 x ∧ View C g v2 r ∧
      w'.heap[p]? = some (.cells #[v2] Tp (0, 0)) ∧ w'.heap[q]? = some (.cells #[v1] Tq (0, 0)) ∧ Fs [p, q] w w' := by
  refine (r24_yes ⟨p, 0, none⟩ ⟨q, 0, none⟩ w hr hg hV (cell_head hp) (frozen_of_heap hp) (cell_head hq) (frozen_of_heap hq) (fun e => hpg e.symm) (by simp [hpq])).mono ?_
  rintro e w1 ⟨v1, v2, rfl, hv1, hv2, rfl⟩
  exact ⟨v1, v2, rfl, hv1, hv2, heap_past ((heap_set_same hp).trans rfl) (fun e => hpq e.symm), (heap_set_same (heap_past hq hpq)).trans rfl, ((Fs.refl _ w).set p 0 _ (by simp)).set q 0 _ (by simp)⟩
theorem r24_not {C : Array Value} {p g : Nat} {T Tp : TypeId} {fr : Nat × Nat} {v : Value} {bs : List UInt8} (qo : Option Addr) (w : World) (hr : rdv 3 bs = none) (hg : w.heap[g]? = some (.cells C T fr)) (hV : View C g v bs)
    (hp : w.heap[p]? = some (.cells #[v] Tp (0, 0))) (hpg : g ≠ p) :
    Calls Try.prog 142 #[.pointer (some ⟨p, 0, none⟩), .pointer qo] w fun e w' => e = .returned (.bool false) ∧ Fs [p] w w' := by
  refine (r24_no ⟨p, 0, none⟩ qo w hr hg hV (cell_head hp) (frozen_of_heap hp) (fun e => hpg e.symm)).mono ?_
  rintro e w1 ⟨v2, rfl, rfl⟩
  exact ⟨rfl, (Fs.refl _ w).set p 0 _ (by simp)⟩

theorem t8_at {C : Array Value} {p q g : Nat} {T Tp Tq : TypeId} {fr : Nat × Nat} {v vq : Value} {bs x r : List UInt8} (w : World) (hr : rdv 1 bs = some (x, r)) (hg : w.heap[g]? = some (.cells C T fr)) (hV : View C g v bs)
    (hp : w.heap[p]? = some (.cells #[v] Tp (0, 0))) (hq : w.heap[q]? = some (.cells #[vq] Tq (0, 0))) (hpg : g ≠ p) (hpq : p ≠ q) :
    Calls Try.prog 97 #[.pointer (some ⟨p, 0, none⟩), .pointer (some ⟨q, 0, none⟩)] w fun e w' => ∃ v1 v2, e = .returned (.bool true) ∧ View C g v1 x ∧ View C g v2 r ∧
      w'.heap[p]? = some (.cells #[v2] Tp (0, 0)) ∧ w'.heap[q]? = some (.cells #[v1] Tq (0, 0)) ∧ Fs [p, q] w w' := by
  refine (t8_yes ⟨p, 0, none⟩ ⟨q, 0, none⟩ w hr hg hV (cell_head hp) (frozen_of_heap hp) (cell_head hq) (frozen_of_heap hq) (fun e => hpg e.symm) (by simp [hpq])).mono ?_
  rintro e w1 ⟨v1, v2, rfl, hv1, hv2, rfl⟩
  exact ⟨v1, v2, rfl, hv1, hv2, heap_past ((heap_set_same hp).trans rfl) (fun e => hpq e.symm), (heap_set_same (heap_past hq hpq)).trans rfl, ((Fs.refl _ w).set p 0 _ (by simp)).set q 0 _ (by simp)⟩
theorem t8_not {C : Array Value} {p g : Nat} {T Tp : TypeId} {fr : Nat × Nat} {v : Value} {bs : List UInt8} (qo : Option Addr) (w : World) (hr : rdv 1 bs = none) (hg : w.heap[g]? = some (.cells C T fr)) (hV : View C g v bs)
    (hp : w.heap[p]? = some (.cells #[v] Tp (0, 0))) (hpg : g ≠ p) :
    Calls Try.prog 97 #[.pointer (some ⟨p, 0, none⟩), .pointer qo] w fun e w' => e = .returned (.bool false) ∧ Fs [p] w w' := by
  refine (t8_no ⟨p, 0, none⟩ qo w hr hg hV (cell_head hp) (frozen_of_heap hp) (fun e => hpg e.symm)).mono ?_
  rintro e w1 ⟨v2, rfl, rfl⟩
  exact ⟨rfl, (Fs.refl _ w).set p 0 _ (by simp)⟩

theorem t16_at {C : Array Value} {p q g : Nat} {T Tp Tq : TypeId} {fr : Nat × Nat} {v vq : Value} {bs x r : List UInt8} (w : World) (hr : rdv 2 bs = some (x, r)) (hg : w.heap[g]? = some (.cells C T fr)) (hV : View C g v bs)
    (hp : w.heap[p]? = some (.cells #[v] Tp (0, 0))) (hq : w.heap[q]? = some (.cells #[vq] Tq (0, 0))) (hpg : g ≠ p) (hpq : p ≠ q) :
    Calls Try.prog 102 #[.pointer (some ⟨p, 0, none⟩), .pointer (some ⟨q, 0, none⟩)] w fun e w' => ∃ v1 v2, e = .returned (.bool true) ∧ View C g v1 x ∧ View C g v2 r ∧
      w'.heap[p]? = some (.cells #[v2] Tp (0, 0)) ∧ w'.heap[q]? = some (.cells #[v1] Tq (0, 0)) ∧ Fs [p, q] w w' := by
  refine (t16_yes ⟨p, 0, none⟩ ⟨q, 0, none⟩ w hr hg hV (cell_head hp) (frozen_of_heap hp) (cell_head hq) (frozen_of_heap hq) (fun e => hpg e.symm) (by simp [hpq])).mono ?_
  rintro e w1 ⟨v1, v2, rfl, hv1, hv2, rfl⟩
  exact ⟨v1, v2, rfl, hv1, hv2, heap_past ((heap_set_same hp).trans rfl) (fun e => hpq e.symm), (heap_set_same (heap_past hq hpq)).trans rfl, ((Fs.refl _ w).set p 0 _ (by simp)).set q 0 _ (by simp)⟩
theorem t16_not {C : Array Value} {p g : Nat} {T Tp : TypeId} {fr : Nat × Nat} {v : Value} {bs : List UInt8} (qo : Option Addr) (w : World) (hr : rdv 2 bs = none) (hg : w.heap[g]? = some (.cells C T fr)) (hV : View C g v bs)
    (hp : w.heap[p]? = some (.cells #[v] Tp (0, 0))) (hpg : g ≠ p) :
    Calls Try.prog 102 #[.pointer (some ⟨p, 0, none⟩), .pointer qo] w fun e w' => e = .returned (.bool false) ∧ Fs [p] w w' := by
  refine (t16_no ⟨p, 0, none⟩ qo w hr hg hV (cell_head hp) (frozen_of_heap hp) (fun e => hpg e.symm)).mono ?_
  rintro e w1 ⟨v2, rfl, rfl⟩
  exact ⟨rfl, (Fs.refl _ w).set p 0 _ (by simp)⟩

theorem t24_at {C : Array Value} {p q g : Nat} {T Tp Tq : TypeId} {fr : Nat × Nat} {v vq : Value} {bs x r : List UInt8} (w : World) (hr : rdv 3 bs = some (x, r)) (hg : w.heap[g]? = some (.cells C T fr)) (hV : View C g v bs)
    (hp : w.heap[p]? = some (.cells #[v] Tp (0, 0))) (hq : w.heap[q]? = some (.cells #[vq] Tq (0, 0))) (hpg : g ≠ p) (hpq : p ≠ q) :
    Calls Try.prog 143 #[.pointer (some ⟨p, 0, none⟩), .pointer (some ⟨q, 0, none⟩)] w fun e w' => ∃ v1 v2, e = .returned (.bool true) ∧ View C g v1 x ∧ View C g v2 r ∧
      w'.heap[p]? = some (.cells #[v2] Tp (0, 0)) ∧ w'.heap[q]? = some (.cells #[v1] Tq (0, 0)) ∧ Fs [p, q] w w' := by
  refine (t24_yes ⟨p, 0, none⟩ ⟨q, 0, none⟩ w hr hg hV (cell_head hp) (frozen_of_heap hp) (cell_head hq) (frozen_of_heap hq) (fun e => hpg e.symm) (by simp [hpq])).mono ?_
  rintro e w1 ⟨v1, v2, rfl, hv1, hv2, rfl⟩
  exact ⟨v1, v2, rfl, hv1, hv2, heap_past ((heap_set_same hp).trans rfl) (fun e => hpq e.symm), (heap_set_same (heap_past hq hpq)).trans rfl, ((Fs.refl _ w).set p 0 _ (by simp)).set q 0 _ (by simp)⟩
theorem t24_not {C : Array Value} {p g : Nat} {T Tp : TypeId} {fr : Nat × Nat} {v : Value} {bs : List UInt8} (qo : Option Addr) (w : World) (hr : rdv 3 bs = none) (hg : w.heap[g]? = some (.cells C T fr)) (hV : View C g v bs)
    (hp : w.heap[p]? = some (.cells #[v] Tp (0, 0))) (hpg : g ≠ p) :
    Calls Try.prog 143 #[.pointer (some ⟨p, 0, none⟩), .pointer qo] w fun e w' => e = .returned (.bool false) ∧ Fs [p] w w' := by
  refine (t24_no ⟨p, 0, none⟩ qo w hr hg hV (cell_head hp) (frozen_of_heap hp) (fun e => hpg e.symm)).mono ?_
  rintro e w1 ⟨v2, rfl, rfl⟩
  exact ⟨rfl, (Fs.refl _ w).set p 0 _ (by simp)⟩

theorem ru8_at {C : Array Value} {p q g : Nat} {T Tp Tq : TypeId} {fr : Nat × Nat} {v vq : Value} {bs x r : List UInt8} (w : World) (hr : rd 1 bs = some (x, r)) (hg : w.heap[g]? = some (.cells C T fr)) (hV : View C g v bs)
    (hp : w.heap[p]? = some (.cells #[v] Tp (0, 0))) (hq : w.heap[q]? = some (.cells #[vq] Tq (0, 0))) (hpg : g ≠ p) (hpq : p ≠ q) :
    Calls Try.prog 98 #[.pointer (some ⟨p, 0, none⟩), .pointer (some ⟨q, 0, none⟩)] w fun e w' => ∃ v2, e = .returned (.bool true) ∧ View C g v2 r ∧
      w'.heap[p]? = some (.cells #[v2] Tp (0, 0)) ∧ w'.heap[q]? = some (.cells #[.int .u8 (be x : Nat)] Tq (0, 0)) ∧ Fs [p, q] w w' := by
  refine (ru8_yes ⟨p, 0, none⟩ ⟨q, 0, none⟩ w hr hg hV (cell_head hp) (frozen_of_heap hp) (cell_head hq) (frozen_of_heap hq) (fun e => hpg e.symm) (by simp [hpq])).mono ?_
  rintro e w1 ⟨v2, rfl, hv2, rfl⟩
  exact ⟨v2, rfl, hv2, heap_past ((heap_set_same hp).trans rfl) (fun e => hpq e.symm), (heap_set_same (heap_past hq hpq)).trans rfl, ((Fs.refl _ w).set p 0 _ (by simp)).set q 0 _ (by simp)⟩
theorem ru8_not {C : Array Value} {p g : Nat} {Tp : TypeId} {v : Value} {bs : List UInt8} (qo : Option Addr) (w : World) (hr : rd 1 bs = none) (hV : View C g v bs) (hp : w.heap[p]? = some (.cells #[v] Tp (0, 0))) :
    Calls Try.prog 98 #[.pointer (some ⟨p, 0, none⟩), .pointer qo] w fun e w' => e = .returned (.bool false) ∧ Fs [p] w w' := by
  refine (ru8_no ⟨p, 0, none⟩ qo w hr hV (cell_head hp)).mono ?_
  rintro e w1 ⟨rfl, rfl⟩
  exact ⟨rfl, Fs.refl _ _⟩

theorem ru16_at {C : Array Value} {p q g : Nat} {T Tp Tq : TypeId} {fr : Nat × Nat} {v vq : Value} {bs x r : List UInt8} (w : World) (hr : rd 2 bs = some (x, r)) (hg : w.heap[g]? = some (.cells C T fr)) (hV : View C g v bs)
    (hp : w.heap[p]? = some (.cells #[v] Tp (0, 0))) (hq : w.heap[q]? = some (.cells #[vq] Tq (0, 0))) (hpg : g ≠ p) (hpq : p ≠ q) :
    Calls Try.prog 95 #[.pointer (some ⟨p, 0, none⟩), .pointer (some ⟨q, 0, none⟩)] w fun e w' => ∃ v2, e = .returned (.bool true) ∧ View C g v2 r ∧
      w'.heap[p]? = some (.cells #[v2] Tp (0, 0)) ∧ w'.heap[q]? = some (.cells #[.int .u16 (be x : Nat)] Tq (0, 0)) ∧ Fs [p, q] w w' := by
  refine (ru16_yes ⟨p, 0, none⟩ ⟨q, 0, none⟩ w hr hg hV (cell_head hp) (frozen_of_heap hp) (cell_head hq) (frozen_of_heap hq) (fun e => hpg e.symm) (by simp [hpq])).mono ?_
  rintro e w1 ⟨v2, rfl, hv2, rfl⟩
  exact ⟨v2, rfl, hv2, heap_past ((heap_set_same hp).trans rfl) (fun e => hpq e.symm), (heap_set_same (heap_past hq hpq)).trans rfl, (((Fs.refl _ w).set p 0 _ (by simp)).set q 0 _ (by simp)).drew⟩
theorem ru16_not {C : Array Value} {p g : Nat} {Tp : TypeId} {v : Value} {bs : List UInt8} (qo : Option Addr) (w : World) (hr : rd 2 bs = none) (hV : View C g v bs) (hp : w.heap[p]? = some (.cells #[v] Tp (0, 0))) :
    Calls Try.prog 95 #[.pointer (some ⟨p, 0, none⟩), .pointer qo] w fun e w' => e = .returned (.bool false) ∧ Fs [p] w w' := by
  refine (ru16_no ⟨p, 0, none⟩ qo w hr hV (cell_head hp)).mono ?_
  rintro e w1 ⟨rfl, rfl⟩
  exact ⟨rfl, Fs.refl _ _⟩

theorem ru32_at {C : Array Value} {p q g : Nat} {T Tp Tq : TypeId} {fr : Nat × Nat} {v vq : Value} {bs x r : List UInt8} (w : World) (hr : rd 4 bs = some (x, r)) (hg : w.heap[g]? = some (.cells C T fr)) (hV : View C g v bs)
    (hp : w.heap[p]? = some (.cells #[v] Tp (0, 0))) (hq : w.heap[q]? = some (.cells #[vq] Tq (0, 0))) (hpg : g ≠ p) (hpq : p ≠ q) :
    Calls Try.prog 112 #[.pointer (some ⟨p, 0, none⟩), .pointer (some ⟨q, 0, none⟩)] w fun e w' => ∃ v2, e = .returned (.bool true) ∧ View C g v2 r ∧
      w'.heap[p]? = some (.cells #[v2] Tp (0, 0)) ∧ w'.heap[q]? = some (.cells #[.int .u32 (be x : Nat)] Tq (0, 0)) ∧ Fs [p, q] w w' := by
  refine (ru32_yes ⟨p, 0, none⟩ ⟨q, 0, none⟩ w hr hg hV (cell_head hp) (frozen_of_heap hp) (cell_head hq) (frozen_of_heap hq) (fun e => hpg e.symm) (by simp [hpq])).mono ?_
  rintro e w1 ⟨v2, rfl, hv2, rfl⟩
  exact ⟨v2, rfl, hv2, heap_past ((heap_set_same hp).trans rfl) (fun e => hpq e.symm), (heap_set_same (heap_past hq hpq)).trans rfl, (((Fs.refl _ w).set p 0 _ (by simp)).set q 0 _ (by simp)).drew⟩
theorem ru32_not {C : Array Value} {p g : Nat} {Tp : TypeId} {v : Value} {bs : List UInt8} (qo : Option Addr) (w : World) (hr : rd 4 bs = none) (hV : View C g v bs) (hp : w.heap[p]? = some (.cells #[v] Tp (0, 0))) :
    Calls Try.prog 112 #[.pointer (some ⟨p, 0, none⟩), .pointer qo] w fun e w' => e = .returned (.bool false) ∧ Fs [p] w w' := by
  refine (ru32_no ⟨p, 0, none⟩ qo w hr hV (cell_head hp)).mono ?_
  rintro e w1 ⟨rfl, rfl⟩
  exact ⟨rfl, Fs.refl _ _⟩

end Go.Proofs.Ytopcljikkdlffaa
