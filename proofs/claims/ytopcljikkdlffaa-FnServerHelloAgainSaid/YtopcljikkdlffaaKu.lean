/- The making of a KeyUpdate that asks for an update: its five bytes. No statement of the seat is proved here. -/
import Derived.Test.YtopcljikkdlffaaLq
namespace Go.Proofs.Ytopcljikkdlffaa
open Go.RowKit

/-- What a captured block holds is still there when the continuation runs. -/
theorem Ks.other {base q i : Nat} {w w' : World} {C : Array Value} {T : TypeId} {fr : Nat × Nat} (h : Ks base q w w') (hi : w.heap[i]? = some (.cells C T fr)) (hT : T ≠ 5 ∧ T ≠ 169) (hq : i ≠ q) :
    w'.heap[i]? = some (.cells C T fr) := by
  rw [h.keep i (lt_of_heap hi) hq (.inr fun ⟨cs, f, e⟩ => by rw [hi] at e; simp only [Option.some.injEq, Obj.cells.injEq] at e; exact hT.1 e.2.1)
    (fun ⟨cs, f, e, _⟩ => by rw [hi] at e; simp only [Option.some.injEq, Obj.cells.injEq] at e; exact hT.2 e.2.1)]
  exact hi

theorem enter_of {k : FuncId} {fn : Func} (h : Try.prog.funcs[k]? = some fn) (hn : (fn.name == "runtime.NumGoroutine") = false) (hb : fn.body.isSome = true) (args : Array Value) (w : World) : (callFunc k args).run Try.prog w = .ok (.enter k args) w := by
  have hn' : ¬ fn.name = "runtime.NumGoroutine" := by simpa using hn
  have hb' : ¬ fn.body = none := by intro e; rw [e] at hb; cases hb
  simp [callFunc, h, hn', hb']

set_option maxRecDepth 100000 in
set_option maxHeartbeats 400000 in
theorem ku_emits {base q x m : Nat} (w : World) (hx : w.heap[x]? = some (.cells #[.pointer (some ⟨m, 0, none⟩)] 149 (0, 0))) (hm : w.heap[m]? = some (.cells #[.bool true] 151 (0, 0))) (hxq : x ≠ q) (hmq : m ≠ q) :
    Emits base q 139 #[.pointer (some ⟨x, 0, none⟩)] [1] w := by
  intro c off pl bs w' hk hf hB hl
  have c1 : w'.cell? ⟨x, 0, none⟩ = some (.pointer (some ⟨m, 0, none⟩)) := by rw [cell_of_heap (hk.other hx (by decide) hxq)]; rfl
  have c2 : w'.cell? ⟨m, 0, none⟩ = some (.bool true) := by rw [cell_of_heap (hk.other hm (by decide) hmq)]; rfl
  have HB := Lib.hid hB
  clear hk hf hB hx hm
  simp only [List.append_toArray, List.cons_append, List.nil_append]
  go_enter Try.func139, Try.ntmps139
  go_wp2_with fail
  refine (add8_ok 1 w' (by omega) (by omega) HB.out hl).mono ?_
  rintro e w1 ⟨rfl, hb, hfr⟩
  go_wp2_with fail
  go_end0
  exact ⟨rfl, hb, hfr⟩

theorem ownsRow_below {w w' : World} {base size n : Nat} {e : TypeId} {v : Value} {xs : List Value} (h : w.ownsRow base e size v n xs) (hb : Below w.heap.size w w') : w'.ownsRow base e size v n xs := by
  refine ⟨h.1, ?_⟩
  rcases h.2 with h2 | ⟨g, cap, cur, hv, hg, hh, r⟩
  · exact .inl h2
  · exact .inr ⟨g, cap, cur, hv, hg, (hb.block g (lt_of_heap hh)).trans hh, r⟩

/-- A builder that has just been laid. -/
theorem bat_new (w : World) {base : Nat} (hb : base ≤ w.heap.size) : BAt (w.alloc (.cells (bcells .nilIface (.slice none 0 0) (.pointer none) 0 0 (.pointer none)) 169)) base w.heap.size 0 0 (.pointer none) [] :=
  ⟨_, heap_alloc_new _ _, World.ownsRow_nil _ _ _ _, by simp; omega⟩

theorem ownsRow_mono {w : World} {base base' size n : Nat} {e : TypeId} {v : Value} {xs : List Value} (h : w.ownsRow base e size v n xs) (hb : base' ≤ base) : w.ownsRow base' e size v n xs := by
  refine ⟨h.1, ?_⟩
  rcases h.2 with h2 | ⟨g, cap, cur, hv, hg, r⟩
  · exact .inl h2
  · exact .inr ⟨g, cap, cur, hv, by omega, r⟩

theorem Below_drewN {B : Nat} {a w : World} (h : Below B a w) (n : Nat) : Below B a (w.drewN n) := ⟨h.os, h.tape, h.output, h.size, h.block⟩

set_option maxRecDepth 100000 in
set_option maxHeartbeats 1000000 in
theorem ku_marshal {m : Nat} (w : World) (hm : w.heap[m]? = some (.cells #[.bool true] 151 (0, 0))) :
    Calls Try.prog 93 #[.pointer (some ⟨m, 0, none⟩)] w fun e w' => ∃ v, e = .returned (.tuple #[v, .nilIface]) ∧ w'.ownsRow w.heap.size 5 1 v 5 ([24, 0, 0, 1, 1].map by8) ∧ Below w.heap.size w w' := by
  have HM := Lib.hid hm
  have hml := lt_of_heap hm
  have hmf' := hmf
  clear hm
  go_enter Try.func93, Try.ntmps93
  go_wp2_with fail
  have HB1 := Lib.hid (bat_new (w.alloc (.cells #[.pointer (some ⟨m, 0, none⟩)] 149)) (base := w.heap.size) (by simp))
  rw [World.size_alloc] at HB1
  refine (add8_ok (base := w.heap.size) 24 _ (by omega) (by omega) HB1.out (by simp)).mono ?_
  rintro e w2 ⟨rfl, hB2, hF2⟩
  have hx2 := hF2.other (i := w.heap.size) ((Below.heap_alloc _ _ _ (by simp)).trans (heap_alloc_new _ _)) (by decide) (by omega)
  have hm2 := hF2.other (i := m) ((Below.heap_alloc _ _ _ (by simp; omega)).trans ((Below.heap_alloc _ _ _ hml).trans HM.out)) (by decide) (by omega)
  have hsz := hF2.size
  simp only [World.size_alloc] at hsz
  have HX2 := Lib.hid hx2
  have HM2 := Lib.hid hm2
  have HB2 := Lib.hid hB2
  have HF2 := Lib.hid hF2
  clear hx2 hm2 hB2 hF2 HB1
  go_wp2_with fail
  refine (lp3_new (out := [1]) w2 (by simp) HB2.out (by simp [en]) (enter_of Try.func139 (by kernel_rfl) (by kernel_rfl)) (fun q hq => ku_emits w2 HX2.out HM2.out (by omega) (by omega))).mono ?_
  rintro e w3 ⟨q, rfl, hB3, hfl, hq, hF3⟩
  have HB3 := Lib.hid hB3
  have HF3 : Hid (Below w.heap.size w w3) := by
    have h1 := (HF2.out.trans hF3).below (by simp; omega) (by omega)
    exact (((Below.refl _ w).alloc (Nat.le_refl _) _).alloc (by simp) _).trans h1
  clear hB3 hF3 hfl
  go_wp2_with fail
  refine (bytes_ok w3 HB3.out).mono ?_
  rintro e w4 ⟨v, rfl, hown, rfl⟩
  have HO := Lib.hid hown
  clear hown
  go_wp2_with fail
  go_ret2
  exact ⟨v, rfl, by simpa [en] using HO.out, HF3.out.drew⟩

set_option maxRecDepth 100000 in
set_option maxHeartbeats 400000 in
theorem ku_tls (w : World) : Calls Try.prog 72 #[.bool true] w fun e w' => ∃ v, e = .returned (.tuple #[v, .nilIface]) ∧ w'.ownsRow w.heap.size 5 1 v 5 ([24, 0, 0, 1, 1].map by8) ∧ Below w.heap.size w w' := by
  go_enter Try.func72, Try.ntmps72
  go_wp2_with fail
  refine (ku_marshal (m := w.heap.size) _ (heap_alloc_new _ _)).mono ?_
  rintro e w1 ⟨v, rfl, hown, hbel⟩
  have HO := Lib.hid hown
  have HB := Lib.hid hbel
  clear hown hbel
  go_wp2_with fail
  go_ret2
  exact ⟨v, rfl, ownsRow_mono HO.out (by simp), ((Below.refl _ w).alloc (Nat.le_refl _) _).trans (HB.out.mono (by simp))⟩

set_option maxRecDepth 100000 in
set_option maxHeartbeats 400000 in
theorem ku_impl (w : World) : Calls Try.prog 36 #[.bool true] w fun e w' => ∃ v, e = .returned (.tuple #[v, .bool true]) ∧ w'.ownsRow w.heap.size 5 1 v 5 ([24, 0, 0, 1, 1].map by8) ∧ Below w.heap.size w w' := by
  go_enter Try.func36, Try.ntmps36
  go_wp2_with fail
  refine (ku_tls w).mono ?_
  rintro e w1 ⟨v, rfl, hown, hbel⟩
  have HO := Lib.hid hown
  have HB := Lib.hid hbel
  clear hown hbel
  go_wp2_with fail
  go_quiet (fail)
  go_wp2_with fail
  go_ret2
  exact ⟨v, rfl, HO.out, Below_drewN HB.out nq⟩

end Go.Proofs.Ytopcljikkdlffaa
