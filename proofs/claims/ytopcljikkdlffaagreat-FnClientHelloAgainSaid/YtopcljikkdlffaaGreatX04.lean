/- Contract of cryptobyte.Builder's vectors: a continuation writes the contents, the length goes ahead of them. Contracts of cryptobyte.Builder's vectors by their lengths' sizes, and of Bytes. The making of a KeyUpdate that asks for an update: its five bytes. No statement of the seat is proved here. -/
import Derived.Test.YtopcljikkdlffaaGreatX03
import Derived.Defers
import Derived.Recover
namespace Go.Proofs.YtopcljikkdlffaaGreat
open Go.RowKit

set_option maxRecDepth 100000 in
set_option maxHeartbeats 400000 in
/-- callContinuation inside another continuation. -/
theorem cc_in {c k q off pl : Nat} {er v ch arg : Value} {caps : Array Value} {R : World → Prop} (w : World)
    (hc : w.heap[c]? = some (.cells (bcells er v ch off pl (.pointer (some ⟨q, 0, none⟩))) 96 (0, 0))) (hq : w.cell? ⟨q, 0, none⟩ = some (.bool true))
    (henter : ∀ (args : Array Value) (w : World), (callFunc k args).run Tryz.prog w = .ok (.enter k args) w)
    (hf : Calls Tryz.prog k (#[arg] ++ caps) (w.alloc (.cells #[.pointer (some ⟨c, 0, none⟩)] 93)) fun e w' => e = .returned (.tuple #[]) ∧ R w') :
    Calls Tryz.prog 103 #[.pointer (some ⟨c, 0, none⟩), .func (.func k) #[] caps, arg] w fun e w' => e = .returned (.tuple #[]) ∧ R w' := by
  obtain ⟨f0, f1, f2, f3, f4, f5, f6, f7⟩ := bfacts hc
  have hlt := lt_of_heap hc
  have hql : q < w.heap.size := World.block_lt_of_cell? w _ hq
  have HF := Lib.hid hf
  clear hc hf
  go_enter Tryz.func103, Tryz.ntmps103
  go_wp2_with fail
  refine HF.out.mono ?_
  rintro e w1 ⟨rfl, hr⟩
  go_wp2_with fail
  go_end0
  exact ⟨rfl, hr⟩

theorem hmf : ∀ (fn : Fn) (first cap : Array Value) (w : World), (Instr.makeFunc fn first cap).run Tryz.prog w = .ok (.func fn first cap) w := fun _ _ _ _ => rfl

set_option maxRecDepth 100000 in
set_option maxHeartbeats 400000 in
/-- The deferred function where nothing has panicked: the flag is taken back. -/
theorem catch_idle {x : Addr} {c q : Nat} {b : Value} (w : World) (hx : w.cell? x = some (.pointer (some ⟨c, 0, none⟩))) (hc : w.cell? ⟨c, 7, none⟩ = some (.pointer (some ⟨q, 0, none⟩)))
    (hq : w.cell? ⟨q, 0, none⟩ = some b) (hf : w.frozen? ⟨q, 0, none⟩ = false) :
    CallsD Tryz.prog 105 #[.pointer (some x)] .returning w fun e u' w' => e = .returned (.tuple #[]) ∧ u' = .returning ∧ w' = w.setCell ⟨q, 0, none⟩ (.bool false) := by
  refine callsD_of_wpS Tryz.func105 rfl fun c₀ cs hu => ?_
  apply wpS_seq
  refine wpS_of_wp ?_
  simp only [Tryz.ntmps105, List.size_toArray, List.length_cons, List.length_nil, Nat.reduceAdd, Nat.reduceSub, Array.replicate_succ,
     Array.replicate_zero, List.push_toArray, List.append_toArray, List.nil_append, List.cons_append]
  go_wp2_with fail
  simp only [Exit.thenS]
  apply wpS_seq
  apply wpS_region
  simp [wpOpsS, go_sem, recoverD, hu, Exit.thenS]
  refine wpS_of_wp ?_
  apply wp_seq
  go_wp2_with fail
  cases c₀
  simp_all [bodyPostS, results, Tryz.results105]

set_option maxRecDepth 100000 in
set_option maxHeartbeats 400000 in
/-- callContinuation from outside: the flag is set for the time of the call. -/
theorem cc_out {c k q off pl : Nat} {er v ch arg : Value} {caps : Array Value} {R : World → Prop} (w : World)
    (hc : w.heap[c]? = some (.cells (bcells er v ch off pl (.pointer (some ⟨q, 0, none⟩))) 96 (0, 0))) (hq : w.cell? ⟨q, 0, none⟩ = some (.bool false)) (hqf : w.frozen? ⟨q, 0, none⟩ = false)
    (henter : ∀ (args : Array Value) (w : World), (callFunc k args).run Tryz.prog w = .ok (.enter k args) w)
    (hf : Calls Tryz.prog k (#[arg] ++ caps) ((w.setCell ⟨q, 0, none⟩ (.bool true)).alloc (.cells #[.pointer (some ⟨c, 0, none⟩)] 93)) fun e w' => e = .returned (.tuple #[]) ∧
      w'.cell? ⟨w.heap.size, 0, none⟩ = some (.pointer (some ⟨c, 0, none⟩)) ∧ w'.cell? ⟨c, 7, none⟩ = some (.pointer (some ⟨q, 0, none⟩)) ∧ w'.cell? ⟨q, 0, none⟩ = some (.bool true) ∧ w'.frozen? ⟨q, 0, none⟩ = false ∧ R (w'.setCell ⟨q, 0, none⟩ (.bool false))) :
    Calls Tryz.prog 103 #[.pointer (some ⟨c, 0, none⟩), .func (.func k) #[] caps, arg] w fun e w' => e = .returned (.tuple #[]) ∧ R w' := by
  obtain ⟨f0, f1, f2, f3, f4, f5, f6, f7⟩ := bfacts hc
  have hlt := lt_of_heap hc
  have hql : q < w.heap.size := World.block_lt_of_cell? w _ hq
  have HF := Lib.hid hf
  clear hc hf
  have hmf' := hmf
  go_enter_defers Tryz.func103, Tryz.ntmps103
  go_wp2_with fail
  refine HF.out.mono ?_
  rintro e w1 ⟨rfl, h1, h2, h3, h4, hr⟩
  have HR := Lib.hid hr
  clear hr
  go_wp2_with fail
  refine leaves_cons (f := 105) (args := #[.pointer (some ⟨w.heap.size, 0, none⟩)]) (by simp) (by simp [go_sem]) ?_
  refine (catch_idle w1 h1 h2 h3 h4).mono ?_
  rintro e u' w2 ⟨rfl, rfl, rfl⟩
  simp [Leaves, settle, results, Tryz.results103, go_sem]
  exact HR.out

/-- A builder's block: none of its cells is a byte. -/
def IsBld (w : World) (k : Nat) : Prop := ∃ cs fr, w.heap[k]? = some (.cells cs 96 fr) ∧ ∀ (j : Nat) (u : Int), cs[j]? ≠ some (.int .u8 u)

theorem bcells_no8 {ao p ip : Option Addr} {n cap off pl : Nat} : ∀ (j : Nat) (u : Int), (bcells .nilIface (.slice ao n cap) (.pointer p) off pl (.pointer ip))[j]? ≠ some (.int .u8 u) := by
  intro j u h
  rcases j with _ | _ | _ | _ | _ | _ | _ | _ | j <;> simp at h

/-- The flag of a builder, in a block of its own. -/
def Flag (w : World) (q : Nat) (b : Bool) : Prop := w.heap[q]? = some (.cells #[.bool b] 4 (0, 0))

/-- What all builders leave alone together: what is neither a builder, nor a row of bytes from base on, nor the flag. -/
structure Ks (base q : Nat) (w w' : World) : Prop where
  size : w.heap.size ≤ w'.heap.size
  keep : ∀ k, k < w.heap.size → k ≠ q → (k < base ∨ ¬ IsRow w k) → ¬ IsBld w k → w'.heap[k]? = w.heap[k]?

theorem Ks.refl (base q : Nat) (w : World) : Ks base q w w := ⟨Nat.le_refl _, fun _ _ _ _ _ => rfl⟩

theorem Ks.trans {base q : Nat} {a b d : World} (h : Ks base q a b) (k : Ks base q b d) : Ks base q a d :=
  ⟨Nat.le_trans h.size k.size, fun i hi hq hr hb => by
    have h1 := h.keep i hi hq hr hb
    have hr' : i < base ∨ ¬ IsRow b i := hr.imp id fun hr ⟨cs, fr, e⟩ => hr ⟨cs, fr, by rw [← h1]; exact e⟩
    have hb' : ¬ IsBld b i := fun ⟨cs, fr, e, h8⟩ => hb ⟨cs, fr, by rw [← h1]; exact e, h8⟩
    exact (k.keep i (Nat.lt_of_lt_of_le hi h.size) hq hr' hb').trans h1⟩

theorem Ks.of_fr {base q c : Nat} {w w' : World} (h : Fr base c w w') (hc : w.heap.size ≤ c ∨ IsBld w c) : Ks base q w w' :=
  ⟨h.size, fun k hk _ hr hb => h.keep k hk (fun e => by subst e; rcases hc with hc | hc; omega; exact hb hc) hr⟩

theorem Ks.set_flag {base q : Nat} (w : World) (u : Value) : Ks base q w (w.setCell ⟨q, 0, none⟩ u) :=
  ⟨by simp [World.setCell], fun _ _ hq _ _ => Below.heap_setCell _ _ _ _ hq⟩

theorem Ks.alloc {base q : Nat} {a w : World} (h : Ks base q a w) (o : Obj) : Ks base q a (w.alloc o) :=
  h.trans ⟨by simp, fun _ hk _ _ _ => Below.heap_alloc _ _ _ hk⟩

theorem Ks.drew {base q : Nat} {a w : World} (h : Ks base q a w) : Ks base q a w.drew := ⟨h.size, h.keep⟩

/-- A frame round another one whose own block is new. -/
theorem Fr.trans_new {base c k : Nat} {a b d : World} (h : Fr base c a b) (g : Fr base k b d) (hk : a.heap.size ≤ k) : Fr base c a d :=
  ⟨g.os.trans h.os, g.tape.trans h.tape, g.output.trans h.output, Nat.le_trans h.size g.size, fun i hi hc hr => by
    have h1 := h.keep i hi hc hr
    have hr' : i < base ∨ ¬ IsRow b i := hr.imp id fun hr ⟨cs, fr, e⟩ => hr ⟨cs, fr, by rw [← h1]; exact e⟩
    exact (g.keep i (Nat.lt_of_lt_of_le hi h.size) (by omega) hr').trans h1⟩

/-- A block that is no row of bytes and not the builder's own reads as it did. -/
theorem Fr.other {base c i : Nat} {w w' : World} {C : Array Value} {T : TypeId} {fr : Nat × Nat} (h : Fr base c w w') (hi : w.heap[i]? = some (.cells C T fr)) (hT : T ≠ 5) (hc : i ≠ c) :
    w'.heap[i]? = some (.cells C T fr) := by
  rw [h.keep i (lt_of_heap hi) hc (.inr fun ⟨cs, f, e⟩ => by rw [hi] at e; simp only [Option.some.injEq, Obj.cells.injEq] at e; exact hT e.2.1)]
  exact hi

theorem Fr.flag {base c q : Nat} {b : Bool} {w w' : World} (h : Fr base c w w') (hq : Flag w q b) (hc : q ≠ c) : Flag w' q b := Fr.other h hq (by decide) hc

theorem BAt.isBld {w : World} {base c off pl : Nat} {ip : Option Addr} {bs : List UInt8} (h : BAt w base c off pl (.pointer ip) bs) : IsBld w c := by
  obtain ⟨v, hc, ho, _⟩ := h
  obtain ⟨ao, cap, rfl⟩ := row_slice ho
  exact ⟨_, _, hc, bcells_no8⟩

theorem BAt.ne_flag {w : World} {base c off pl q : Nat} {b : Bool} {ic : Value} {bs : List UInt8} (h : BAt w base c off pl ic bs) (hq : Flag w q b) : q ≠ c := by
  rintro rfl
  obtain ⟨v, hc, _⟩ := h
  unfold Flag at hq
  rw [hq] at hc
  simp only [Option.some.injEq, Obj.cells.injEq] at hc
  exact absurd hc.2.1 (by decide)

/-- Whenever a builder is handed to function k (with what it captured), it writes 'out' behind what the builder held. -/
def Emits (base q k : Nat) (caps : Array Value) (out : List UInt8) (w : World) : Prop :=
  ∀ (c off pl : Nat) (bs : List UInt8) (w' : World), Ks base q w w' → Flag w' q true → BAt w' base c off pl (.pointer (some ⟨q, 0, none⟩)) bs → bs.length + out.length ≤ 70368744177664 →
    Calls Tryz.prog k (#[.pointer (some ⟨c, 0, none⟩)] ++ caps) w' fun e w'' => e = .returned (.tuple #[]) ∧ BAt w'' base c off pl (.pointer (some ⟨q, 0, none⟩)) (bs ++ out) ∧ Fr base c w' w''

theorem Emits.later {base q k : Nat} {caps : Array Value} {out : List UInt8} {w w1 : World} (h : Emits base q k caps out w) (hk : Ks base q w w1) : Emits base q k caps out w1 :=
  fun c off pl bs w' h1 h2 h3 h4 => h c off pl bs w' (hk.trans h1) h2 h3 h4

theorem flag_cell {w : World} {q : Nat} {b : Bool} (h : Flag w q b) : w.cell? ⟨q, 0, none⟩ = some (.bool b) := by rw [cell_of_heap h]; rfl
theorem flag_frozen {w : World} {q : Nat} {b : Bool} (h : Flag w q b) : w.frozen? ⟨q, 0, none⟩ = false := frozen_of_heap h

theorem BAt.set_flag {w : World} {base c off pl q : Nat} {b : Bool} {u ic : Value} {bs : List UInt8} (h : BAt w base c off pl ic bs) (hq : Flag w q b) : BAt (w.setCell ⟨q, 0, none⟩ u) base c off pl ic bs := by
  have hne := h.ne_flag hq
  obtain ⟨v, hc, hown, hb⟩ := h
  exact ⟨v, (Below.heap_setCell _ _ _ _ (fun e => hne e.symm)).trans hc, ownsRow_set hown hq (by decide), by simp [World.setCell]; omega⟩

set_option maxRecDepth 100000 in
set_option maxHeartbeats 400000 in
/-- callContinuation, inside another one or not: what the continuation writes stands behind the child's bytes; the flag is as it was. -/
theorem cc_any {base c kc q k off pl offk plk : Nat} {b : Bool} {er v ch : Value} {caps : Array Value} {bs out : List UInt8} (w : World)
    (hc : w.heap[c]? = some (.cells (bcells er v ch off pl (.pointer (some ⟨q, 0, none⟩))) 96 (0, 0))) (hck : c ≠ kc)
    (hq : Flag w q b) (hk : BAt w base kc offk plk (.pointer (some ⟨q, 0, none⟩)) bs) (hl : bs.length + out.length ≤ 70368744177664)
    (henter : ∀ (args : Array Value) (w : World), (callFunc k args).run Tryz.prog w = .ok (.enter k args) w) (hem : Emits base q k caps out w) :
    Calls Tryz.prog 103 #[.pointer (some ⟨c, 0, none⟩), .func (.func k) #[] caps, .pointer (some ⟨kc, 0, none⟩)] w fun e w' => e = .returned (.tuple #[]) ∧
      (BAt w' base kc offk plk (.pointer (some ⟨q, 0, none⟩)) (bs ++ out) ∧ Fr base kc w w') := by
  have hkc := hk.isBld
  have hqk := hk.ne_flag hq
  have hqc : q ≠ c := by
    rintro rfl
    unfold Flag at hq
    rw [hq] at hc
    simp only [Option.some.injEq, Obj.cells.injEq] at hc
    exact absurd hc.2.1 (by decide)
  cases b with
  | true =>
    refine cc_in (R := fun w' => BAt w' base kc offk plk (.pointer (some ⟨q, 0, none⟩)) (bs ++ out) ∧ Fr base kc w w') w hc (flag_cell hq) henter ?_
    refine (hem kc offk plk bs _ ((Ks.refl _ _ _).alloc _) ((Below.heap_alloc _ _ _ (lt_of_heap hq)).trans hq) (hk.alloc _) hl).mono ?_
    rintro e w1 ⟨rfl, h1, h2⟩
    exact ⟨rfl, h1, ((Fr.refl base kc w).alloc _).trans h2⟩
  | false =>
    have hlt := lt_of_heap hq
    have hcl := lt_of_heap hc
    refine cc_out (R := fun w' => BAt w' base kc offk plk (.pointer (some ⟨q, 0, none⟩)) (bs ++ out) ∧ Fr base kc w w') w hc (flag_cell hq) (flag_frozen hq) henter ?_
    have hq1 : Flag ((w.setCell ⟨q, 0, none⟩ (.bool true)).alloc (.cells #[.pointer (some ⟨c, 0, none⟩)] 93)) q true :=
      (Below.heap_alloc _ _ _ (by simpa [World.setCell] using hlt)).trans ((heap_set_same hq).trans rfl)
    refine (hem kc offk plk bs _ ((Ks.set_flag w _).alloc _) hq1 ((hk.set_flag hq).alloc _) hl).mono ?_
    rintro e w1 ⟨rfl, h1, h2⟩
    have hbox : ((w.setCell ⟨q, 0, none⟩ (.bool true)).alloc (.cells #[.pointer (some ⟨c, 0, none⟩)] 93)).heap[w.heap.size]? = some (.cells #[.pointer (some ⟨c, 0, none⟩)] 93 (0, 0)) := by
      have e : (w.setCell ⟨q, 0, none⟩ (.bool true)).heap.size = w.heap.size := by simp [World.setCell]
      rw [← e]
      exact heap_alloc_new _ _
    have hc1 : ((w.setCell ⟨q, 0, none⟩ (.bool true)).alloc (.cells #[.pointer (some ⟨c, 0, none⟩)] 93)).heap[c]? = some (.cells (bcells er v ch off pl (.pointer (some ⟨q, 0, none⟩))) 96 (0, 0)) :=
      (Below.heap_alloc _ _ _ (by simpa [World.setCell] using hcl)).trans ((Below.heap_setCell _ _ _ _ (fun e => hqc e.symm)).trans hc)
    have hq2 := h2.flag hq1 hqk
    have hkl : kc < w.heap.size := by obtain ⟨cs, fr, e, _⟩ := hkc; exact lt_of_heap e
    refine ⟨rfl, ?_, ?_, flag_cell hq2, flag_frozen hq2, h1.set_flag hq2, ?_⟩
    · rw [cell_of_heap (h2.other hbox (by decide) (by omega))]; rfl
    · exact (bfacts (h2.other hc1 (by decide) hck)).2.2.2.2.2.2.2
    · refine ⟨h2.os, h2.tape, h2.output, ?_, fun i hi hic hir => ?_⟩
      · have := h2.size; simp [World.setCell] at this ⊢; omega
      · by_cases hiq : i = q
        · subst hiq
          rw [heap_set_same hq2, hq]; rfl
        · have e0 : ((w.setCell ⟨q, 0, none⟩ (.bool true)).alloc (.cells #[.pointer (some ⟨c, 0, none⟩)] 93)).heap[i]? = w.heap[i]? :=
            (Below.heap_alloc _ _ _ (by simpa [World.setCell] using hi)).trans (Below.heap_setCell _ _ _ _ hiq)
          rw [Below.heap_setCell _ _ _ _ hiq]
          rw [h2.keep i (by simp [World.setCell]; omega) hic (hir.imp id fun hr ⟨cs, fr, e⟩ => hr ⟨cs, fr, by rw [← e0]; exact e⟩)]
          exact e0

theorem child_facts {w : World} {base c off pl n : Nat} {v ic : Value} {bs : List UInt8} (hc : w.heap[c]? = some (.cells (bcells .nilIface v (.pointer none) off pl ic) 96 (0, 0)))
    (hown : w.ownsRow base 5 1 v (bs.length + n) ((bs ++ List.replicate n 0).map by8)) (hb : base ≤ w.heap.size) :
    let w1 := ((w.setCell ⟨c, 3, none⟩ (.pointer (some ⟨w.heap.size, 0, none⟩))).alloc (.cells (bcells .nilIface v (.pointer none) bs.length n ic) 96)).drew
    w1.heap[c]? = some (.cells (bcells .nilIface v (.pointer (some ⟨w.heap.size, 0, none⟩)) off pl ic) 96 (0, 0)) ∧ BAt w1 base w.heap.size bs.length n ic (bs ++ List.replicate n 0) ∧ Fr base c w w1 ∧ c ≠ w.heap.size := by
  have hcl := lt_of_heap hc
  have e : (w.setCell ⟨c, 3, none⟩ (.pointer (some ⟨w.heap.size, 0, none⟩))).heap.size = w.heap.size := by simp [World.setCell]
  have el : (bs ++ List.replicate n (0 : UInt8)).length = bs.length + n := by simp
  refine ⟨(Below.heap_alloc _ _ _ (by omega)).trans ((heap_set_same hc).trans rfl), ⟨v, ?_, ?_, ?_⟩, (((Fr.refl base c w).setCell 3 _).alloc _).drew, by omega⟩
  · have h := heap_alloc_new (w.setCell ⟨c, 3, none⟩ (.pointer (some ⟨w.heap.size, 0, none⟩))) (.cells (bcells .nilIface v (.pointer none) bs.length n ic) 96)
    rw [e] at h
    exact h
  · rw [el]
    exact (ownsRow_set hown hc (by decide)).alloc _
  · show base ≤ ((w.setCell ⟨c, 3, none⟩ (.pointer (some ⟨w.heap.size, 0, none⟩))).alloc _).heap.size
    simp [World.setCell]
    omega

set_option maxRecDepth 100000 in
set_option maxHeartbeats 1000000 in
/-- A vector, where the builder has a flag already; m: how long its length is. -/
theorem lp_flag {base c q k off pl m : Nat} {b : Bool} {caps : Array Value} {bs out : List UInt8} (w : World) (hm : 1 ≤ m ∧ m ≤ 3) (hout : out.length < 256 ^ m)
    (hB : BAt w base c off pl (.pointer (some ⟨q, 0, none⟩)) bs) (hq : Flag w q b) (hl : bs.length + m + out.length ≤ 70368744177664)
    (hmk : ∀ w : World, (Instr.makeSlice 22 (.int .i64 (m : Int)) (.int .i64 (m : Int))).run Tryz.prog w = .ok (.slice (some ⟨w.heap.size, 0, none⟩) m m) (w.alloc (.cells (Array.replicate m (by8 0)) 5)))
    (henter : ∀ (args : Array Value) (w : World), (callFunc k args).run Tryz.prog w = .ok (.enter k args) w) (hem : Emits base q k caps out w) :
    Calls Tryz.prog 99 #[.pointer (some ⟨c, 0, none⟩), .int .i64 (m : Int), .bool false, .func (.func k) #[] caps] w fun e w' => e = .returned (.tuple #[]) ∧
      BAt w' base c off pl (.pointer (some ⟨q, 0, none⟩)) (bs ++ en m out.length ++ out) ∧ Fr base c w w' := by
  obtain ⟨v, hc, hown, hbase⟩ := id hB
  obtain ⟨ao, cap, rfl⟩ := row_slice hown
  obtain ⟨f0, f1, f2, f3, f4, f5, f6, f7⟩ := bfacts hc
  have hcl := lt_of_heap hc
  have HB := Lib.hid hB
  have HM := Lib.hid hem
  have hqc := hB.ne_flag hq
  have HQ := Lib.hid hq
  clear hB hc hown hem hq
  go_enter Tryz.func99, Tryz.ntmps99
  go_wp2_with fail
  clear hmk
  refine (add_ok _ (HB.out.alloc _) (src_new w (arr := Array.replicate m (by8 0)) (s := List.replicate m 0) (n := m) (by simp) (by simp)) (by simp; omega)).mono ?_
  rintro e w1 ⟨rfl, hB1, hF1⟩
  have HQ1 : Hid (Flag w1 q b) := hF1.flag ((Below.heap_alloc _ _ _ (lt_of_heap HQ.out)).trans HQ.out) hqc
  have HF1 : Hid (Fr base c w w1) := ((Fr.refl base c w).alloc _).trans hF1
  clear hF1 f0 f1 f2 f3 f4 f5 f6 f7
  obtain ⟨v1, hc1, hown1, hbase1⟩ := hB1
  rw [show (bs ++ List.replicate m (0 : UInt8)).length = bs.length + m by simp] at hown1
  obtain ⟨ao1, cap1, rfl⟩ := row_slice hown1
  obtain ⟨f0, f1, f2, f3, f4, f5, f6, f7⟩ := bfacts hc1
  have hcl1 := lt_of_heap hc1
  have hfz1 : w1.frozen? ⟨c, 3, none⟩ = false := frozen_of_heap hc1
  have HC1 := Lib.hid hc1
  have HO1 := Lib.hid hown1
  clear hc1 hown1
  go_wp2_with fail
  go_region_held3 (fun w' => w'.cell? ⟨c, 1, none⟩ = some (.slice ao1 (bs.length + m) cap1) ∧ w'.cell? ⟨c, 2, none⟩ = some (.bool false) ∧ w'.cell? ⟨c, 7, none⟩ = some (.pointer (some ⟨q, 0, none⟩))) (first | (go_keep; done) | exact ⟨((World.cell?_alloc_lt _ _ _ (by simpa [World.setCell] using hcl1)).trans ((World.cell?_setCell_other _ _ _ _ (by simp)).trans f1)), ((World.cell?_alloc_lt _ _ _ (by simpa [World.setCell] using hcl1)).trans ((World.cell?_setCell_other _ _ _ _ (by simp)).trans f2)), ((World.cell?_alloc_lt _ _ _ (by simpa [World.setCell] using hcl1)).trans ((World.cell?_setCell_other _ _ _ _ (by simp)).trans f7))⟩) (fail)
  go_wp2_with fail
  obtain ⟨d1, d2, d3, d4⟩ := child_facts HC1.out HO1.out hbase1
  have HQ2 := Fr.flag d3 HQ1.out hqc
  have hks : Ks base q w w1 := Ks.of_fr HF1.out (.inr HB.out.isBld)
  have hks2 : Ks base q w1 _ := Ks.of_fr d3 (.inr ⟨_, _, HC1.out, bcells_no8⟩)
  refine (cc_any (base := base) _ d1 d4 HQ2 d2 (by simp; omega) henter ((HM.out.later hks).later hks2)).mono ?_
  rintro e w2 ⟨rfl, hB2, hF2⟩
  have hc2 := hF2.other d1 (by decide) d4
  have HF2 : Hid (Fr base c w w2) := ((show Fr base c w w1 from HF1.out).trans d3).trans_new hF2 (by have := HF1.out.size; omega)
  have hb2 : base ≤ w2.heap.size := by have := HF2.out.size; omega
  clear HC1 HO1 HQ1 HF1 HB HM HQ hF2 d1 d2 d3 HQ2 hks hks2 hbase1 f0 f1 f2 f3 f4 f5 f6 f7 hfz1
  obtain ⟨v2, hk2, hown2, _⟩ := hB2
  have HC2 := Lib.hid hc2
  have HK2 := Lib.hid hk2
  have HO2 : Hid (w2.ownsRow base 5 1 v2 (half bs out m m).length ((half bs out m m).map by8)) := by
    have e : half bs out m m = bs ++ List.replicate m 0 ++ out := by simp [half, en]
    rw [e]; exact hown2
  obtain ⟨f0, f1, f2, f3, f4, f5, f6, f7⟩ := bfacts hc2
  clear hc2 hk2 hown2
  go_wp2_with fail
  refine (flush_ok w2 hm hout d4 HC2.out HK2.out HO2.out hb2 (by omega)).mono ?_
  rintro e w3 ⟨rfl, hB3, hF3⟩
  obtain ⟨v3, hc3, hown3, hb3⟩ := id hB3
  obtain ⟨g0, g1, g2, g3, g4, g5, g6, g7⟩ := bfacts hc3
  have HB3 := Lib.hid hB3
  have HF3 : Hid (Fr base c w w3) := HF2.out.trans hF3
  clear hc3 hown3 hB3 hF3
  go_wp2_with fail
  go_end0
  exact ⟨rfl, HB3.out, HF3.out⟩

set_option maxRecDepth 100000 in
set_option maxHeartbeats 1000000 in
/-- A vector, where the builder has no flag yet: one is laid. -/
theorem lp_new {base c k off pl m : Nat} {caps : Array Value} {bs out : List UInt8} (w : World) (hm : 1 ≤ m ∧ m ≤ 3) (hout : out.length < 256 ^ m)
    (hB : BAt w base c off pl (.pointer none) bs) (hl : bs.length + m + out.length ≤ 70368744177664)
    (hmk : ∀ w : World, (Instr.makeSlice 22 (.int .i64 (m : Int)) (.int .i64 (m : Int))).run Tryz.prog w = .ok (.slice (some ⟨w.heap.size, 0, none⟩) m m) (w.alloc (.cells (Array.replicate m (by8 0)) 5)))
    (henter : ∀ (args : Array Value) (w : World), (callFunc k args).run Tryz.prog w = .ok (.enter k args) w) (hem : ∀ q, w.heap.size ≤ q → Emits base q k caps out w) :
    Calls Tryz.prog 99 #[.pointer (some ⟨c, 0, none⟩), .int .i64 (m : Int), .bool false, .func (.func k) #[] caps] w fun e w' => ∃ q, e = .returned (.tuple #[]) ∧
      BAt w' base c off pl (.pointer (some ⟨q, 0, none⟩)) (bs ++ en m out.length ++ out) ∧ Flag w' q false ∧ w.heap.size ≤ q ∧ Fr base c w w' := by
  obtain ⟨v, hc, hown, hbase⟩ := id hB
  obtain ⟨ao, cap, rfl⟩ := row_slice hown
  obtain ⟨f0, f1, f2, f3, f4, f5, f6, f7⟩ := bfacts hc
  have hcl := lt_of_heap hc
  have HB := Lib.hid hB
  have HM := Lib.hid hem
  clear hB hc hown hem
  go_enter Tryz.func99, Tryz.ntmps99
  go_wp2_with fail
  clear hmk
  refine (add_ok _ (HB.out.alloc _) (src_new w (arr := Array.replicate m (by8 0)) (s := List.replicate m 0) (n := m) (by simp) (by simp)) (by simp; omega)).mono ?_
  rintro e w1 ⟨rfl, hB1, hF1⟩
  have HF1 : Hid (Fr base c w w1) := ((Fr.refl base c w).alloc _).trans hF1
  clear hF1 f0 f1 f2 f3 f4 f5 f6 f7
  obtain ⟨v0, hc0, hown0, hbase0⟩ := hB1
  rw [show (bs ++ List.replicate m (0 : UInt8)).length = bs.length + m by simp] at hown0
  obtain ⟨ao1, cap1, rfl⟩ := row_slice hown0
  obtain ⟨f0, f1, f2, f3, f4, f5, f6, f7⟩ := bfacts hc0
  have hfz0 : w1.frozen? ⟨c, 7, none⟩ = false := frozen_of_heap hc0
  have hcl0 := lt_of_heap hc0
  have HC0 := Lib.hid hc0
  have HO0 := Lib.hid hown0
  clear hc0 hown0
  go_wp2_with fail
  have HX : Hid (((w1.setCell ⟨c, 7, none⟩ (.pointer (some ⟨w1.heap.size, 0, none⟩))).alloc (.cells #[.bool false] 4)).heap[c]? = some (.cells (bcells .nilIface (.slice ao1 (bs.length + m) cap1) (.pointer none) off pl (.pointer (some ⟨w1.heap.size, 0, none⟩))) 96 (0, 0)) ∧
      ((w1.setCell ⟨c, 7, none⟩ (.pointer (some ⟨w1.heap.size, 0, none⟩))).alloc (.cells #[.bool false] 4)).ownsRow base 5 1 (.slice ao1 (bs.length + m) cap1) (bs.length + m) ((bs ++ List.replicate m 0).map by8) ∧
      base ≤ ((w1.setCell ⟨c, 7, none⟩ (.pointer (some ⟨w1.heap.size, 0, none⟩))).alloc (.cells #[.bool false] 4)).heap.size ∧
      Flag ((w1.setCell ⟨c, 7, none⟩ (.pointer (some ⟨w1.heap.size, 0, none⟩))).alloc (.cells #[.bool false] 4)) w1.heap.size false ∧
      Fr base c w ((w1.setCell ⟨c, 7, none⟩ (.pointer (some ⟨w1.heap.size, 0, none⟩))).alloc (.cells #[.bool false] 4)) ∧ w.heap.size ≤ w1.heap.size ∧ w1.heap.size ≠ c) := by
    have e : (w1.setCell ⟨c, 7, none⟩ (.pointer (some ⟨w1.heap.size, 0, none⟩))).heap.size = w1.heap.size := by simp [World.setCell]
    refine ⟨(Below.heap_alloc _ _ _ (by omega)).trans ((heap_set_same HC0.out).trans rfl), (ownsRow_set HO0.out HC0.out (by decide)).alloc _, by simp [World.setCell]; omega, ?_, (HF1.out.setCell 7 _).alloc _, HF1.out.size, by omega⟩
    have h := heap_alloc_new (w1.setCell ⟨c, 7, none⟩ (.pointer (some ⟨w1.heap.size, 0, none⟩))) (.cells #[.bool false] 4)
    rw [e] at h
    exact h
  clear HC0 HO0 HF1 f0 f1 f2 f3 f4 f5 f6 f7 hfz0 hbase0
  generalize (w1.setCell ⟨c, 7, none⟩ (.pointer (some ⟨w1.heap.size, 0, none⟩))).alloc (.cells #[.bool false] 4) = wx at HX ⊢
  generalize w1.heap.size = q at HX ⊢
  obtain ⟨hc1, hown1, hbase1, hq1, hfr1, hq0', hqc⟩ := HX.out
  have HQ1 := Lib.hid hq1
  have HF1 := Lib.hid hfr1
  have hq0 := Lib.hid hq0'
  clear HX hq1 hfr1 hq0' hcl0
  obtain ⟨f0, f1, f2, f3, f4, f5, f6, f7⟩ := bfacts hc1
  have hcl1 := lt_of_heap hc1
  have hfz1 : wx.frozen? ⟨c, 3, none⟩ = false := frozen_of_heap hc1
  have HC1 := Lib.hid hc1
  have HO1 := Lib.hid hown1
  clear hc1 hown1
  go_region_held3 (fun w' => w'.cell? ⟨c, 1, none⟩ = some (.slice ao1 (bs.length + m) cap1) ∧ w'.cell? ⟨c, 2, none⟩ = some (.bool false) ∧ w'.cell? ⟨c, 7, none⟩ = some (.pointer (some ⟨q, 0, none⟩))) (first | (go_keep; done) | exact ⟨((World.cell?_alloc_lt _ _ _ (by simpa [World.setCell] using hcl1)).trans ((World.cell?_setCell_other _ _ _ _ (by simp)).trans f1)), ((World.cell?_alloc_lt _ _ _ (by simpa [World.setCell] using hcl1)).trans ((World.cell?_setCell_other _ _ _ _ (by simp)).trans f2)), ((World.cell?_alloc_lt _ _ _ (by simpa [World.setCell] using hcl1)).trans ((World.cell?_setCell_other _ _ _ _ (by simp)).trans f7))⟩) (fail)
  go_wp2_with fail
  obtain ⟨d1, d2, d3, d4⟩ := child_facts HC1.out HO1.out hbase1
  have HQ2 := Fr.flag d3 HQ1.out hqc
  have hks : Ks base q w wx := Ks.of_fr HF1.out (.inr HB.out.isBld)
  have hks2 : Ks base q wx _ := Ks.of_fr d3 (.inr ⟨_, _, HC1.out, bcells_no8⟩)
  refine (cc_any (base := base) _ d1 d4 HQ2 d2 (by simp; omega) henter (((HM.out q hq0.out).later hks).later hks2)).mono ?_
  rintro e w2 ⟨rfl, hB2, hF2⟩
  have hc2 := hF2.other d1 (by decide) d4
  have HF2 : Hid (Fr base c w w2) := ((show Fr base c w wx from HF1.out).trans d3).trans_new hF2 (by have := HF1.out.size; omega)
  have hb2 : base ≤ w2.heap.size := by have := HF2.out.size; omega
  have hqsz : Hid (w.heap.size ≤ q) := hq0.out
  have HQ3 : Hid (Flag w2 q false) := hF2.flag HQ2 (by have := HQ1.out; have := lt_of_heap HQ1.out; omega)
  clear HC1 HO1 HQ1 HF1 HB HM hF2 d1 d2 d3 HQ2 hks hks2 hbase1 f0 f1 f2 f3 f4 f5 f6 f7 hfz1
  obtain ⟨v2, hk2, hown2, _⟩ := hB2
  have HC2 := Lib.hid hc2
  have HK2 := Lib.hid hk2
  have HO2 : Hid (w2.ownsRow base 5 1 v2 (half bs out m m).length ((half bs out m m).map by8)) := by
    have e : half bs out m m = bs ++ List.replicate m 0 ++ out := by simp [half, en]
    rw [e]; exact hown2
  obtain ⟨f0, f1, f2, f3, f4, f5, f6, f7⟩ := bfacts hc2
  clear hc2 hk2 hown2
  go_wp2_with fail
  refine (flush_ok w2 hm hout d4 HC2.out HK2.out HO2.out hb2 (by omega)).mono ?_
  rintro e w3 ⟨rfl, hB3, hF3⟩
  obtain ⟨v3, hc3, hown3, hb3⟩ := id hB3
  obtain ⟨g0, g1, g2, g3, g4, g5, g6, g7⟩ := bfacts hc3
  have HB3 := Lib.hid hB3
  have HF3 : Hid (Fr base c w w3) := HF2.out.trans hF3
  have HQ4 : Hid (Flag w3 q false) := hF3.flag HQ3.out hqc
  clear hc3 hown3 hB3 hF3
  go_wp2_with fail
  go_end0
  exact ⟨q, rfl, HB3.out, HQ4.out, hqsz.out, HF3.out⟩

end Go.Proofs.YtopcljikkdlffaaGreat
namespace Go.Proofs.YtopcljikkdlffaaGreat
open Go.RowKit

theorem mk1 (w : World) : (Instr.makeSlice 22 (.int .i64 ((1 : Nat) : Int)) (.int .i64 ((1 : Nat) : Int))).run Tryz.prog w = .ok (.slice (some ⟨w.heap.size, 0, none⟩) 1 1) (w.alloc (.cells (Array.replicate 1 (by8 0)) 5)) := by kernel_rfl

set_option maxRecDepth 100000 in
set_option maxHeartbeats 400000 in
theorem lp1_flag {base c q k off pl : Nat} {b : Bool} {caps : Array Value} {bs out : List UInt8} (w : World) (hout : out.length < 256)
    (hB : BAt w base c off pl (.pointer (some ⟨q, 0, none⟩)) bs) (hq : Flag w q b) (hl : bs.length + 1 + out.length ≤ 70368744177664)
    (henter : ∀ (args : Array Value) (w : World), (callFunc k args).run Tryz.prog w = .ok (.enter k args) w) (hem : Emits base q k caps out w) :
    Calls Tryz.prog 57 #[.pointer (some ⟨c, 0, none⟩), .func (.func k) #[] caps] w fun e w' => e = .returned (.tuple #[]) ∧
      BAt w' base c off pl (.pointer (some ⟨q, 0, none⟩)) (bs ++ en 1 out.length ++ out) ∧ Fr base c w w' := by
  have h := lp_flag (m := 1) w (by omega) hout hB hq hl mk1 henter hem
  have H := Lib.hid h
  clear h hB hq hem
  go_enter Tryz.func57, Tryz.ntmps57
  go_wp2_with fail
  refine H.out.mono ?_
  rintro e w1 ⟨rfl, h1, h2⟩
  go_wp2_with fail
  go_end0
  exact ⟨rfl, h1, h2⟩

set_option maxRecDepth 100000 in
set_option maxHeartbeats 400000 in
theorem lp1_new {base c k off pl : Nat} {caps : Array Value} {bs out : List UInt8} (w : World) (hout : out.length < 256)
    (hB : BAt w base c off pl (.pointer none) bs) (hl : bs.length + 1 + out.length ≤ 70368744177664)
    (henter : ∀ (args : Array Value) (w : World), (callFunc k args).run Tryz.prog w = .ok (.enter k args) w) (hem : ∀ q, w.heap.size ≤ q → Emits base q k caps out w) :
    Calls Tryz.prog 57 #[.pointer (some ⟨c, 0, none⟩), .func (.func k) #[] caps] w fun e w' => ∃ q, e = .returned (.tuple #[]) ∧
      BAt w' base c off pl (.pointer (some ⟨q, 0, none⟩)) (bs ++ en 1 out.length ++ out) ∧ Flag w' q false ∧ w.heap.size ≤ q ∧ Fr base c w w' := by
  have h := lp_new (m := 1) w (by omega) hout hB hl mk1 henter hem
  have H := Lib.hid h
  clear h hB hem
  go_enter Tryz.func57, Tryz.ntmps57
  go_wp2_with fail
  refine H.out.mono ?_
  rintro e w1 ⟨q, rfl, h1, h2, h3, h4⟩
  go_wp2_with fail
  go_end0
  exact ⟨q, rfl, h1, h2, h3, h4⟩

theorem mk2 (w : World) : (Instr.makeSlice 22 (.int .i64 ((2 : Nat) : Int)) (.int .i64 ((2 : Nat) : Int))).run Tryz.prog w = .ok (.slice (some ⟨w.heap.size, 0, none⟩) 2 2) (w.alloc (.cells (Array.replicate 2 (by8 0)) 5)) := by kernel_rfl

set_option maxRecDepth 100000 in
set_option maxHeartbeats 400000 in
theorem lp2_flag {base c q k off pl : Nat} {b : Bool} {caps : Array Value} {bs out : List UInt8} (w : World) (hout : out.length < 65536)
    (hB : BAt w base c off pl (.pointer (some ⟨q, 0, none⟩)) bs) (hq : Flag w q b) (hl : bs.length + 2 + out.length ≤ 70368744177664)
    (henter : ∀ (args : Array Value) (w : World), (callFunc k args).run Tryz.prog w = .ok (.enter k args) w) (hem : Emits base q k caps out w) :
    Calls Tryz.prog 51 #[.pointer (some ⟨c, 0, none⟩), .func (.func k) #[] caps] w fun e w' => e = .returned (.tuple #[]) ∧
      BAt w' base c off pl (.pointer (some ⟨q, 0, none⟩)) (bs ++ en 2 out.length ++ out) ∧ Fr base c w w' := by
  have h := lp_flag (m := 2) w (by omega) hout hB hq hl mk2 henter hem
  have H := Lib.hid h
  clear h hB hq hem
  go_enter Tryz.func51, Tryz.ntmps51
  go_wp2_with fail
  refine H.out.mono ?_
  rintro e w1 ⟨rfl, h1, h2⟩
  go_wp2_with fail
  go_end0
  exact ⟨rfl, h1, h2⟩

set_option maxRecDepth 100000 in
set_option maxHeartbeats 400000 in
theorem lp2_new {base c k off pl : Nat} {caps : Array Value} {bs out : List UInt8} (w : World) (hout : out.length < 65536)
    (hB : BAt w base c off pl (.pointer none) bs) (hl : bs.length + 2 + out.length ≤ 70368744177664)
    (henter : ∀ (args : Array Value) (w : World), (callFunc k args).run Tryz.prog w = .ok (.enter k args) w) (hem : ∀ q, w.heap.size ≤ q → Emits base q k caps out w) :
    Calls Tryz.prog 51 #[.pointer (some ⟨c, 0, none⟩), .func (.func k) #[] caps] w fun e w' => ∃ q, e = .returned (.tuple #[]) ∧
      BAt w' base c off pl (.pointer (some ⟨q, 0, none⟩)) (bs ++ en 2 out.length ++ out) ∧ Flag w' q false ∧ w.heap.size ≤ q ∧ Fr base c w w' := by
  have h := lp_new (m := 2) w (by omega) hout hB hl mk2 henter hem
  have H := Lib.hid h
  clear h hB hem
  go_enter Tryz.func51, Tryz.ntmps51
  go_wp2_with fail
  refine H.out.mono ?_
  rintro e w1 ⟨q, rfl, h1, h2, h3, h4⟩
  go_wp2_with fail
  go_end0
  exact ⟨q, rfl, h1, h2, h3, h4⟩

theorem mk3 (w : World) : (Instr.makeSlice 22 (.int .i64 ((3 : Nat) : Int)) (.int .i64 ((3 : Nat) : Int))).run Tryz.prog w = .ok (.slice (some ⟨w.heap.size, 0, none⟩) 3 3) (w.alloc (.cells (Array.replicate 3 (by8 0)) 5)) := by kernel_rfl

set_option maxRecDepth 100000 in
set_option maxHeartbeats 400000 in
theorem lp3_flag {base c q k off pl : Nat} {b : Bool} {caps : Array Value} {bs out : List UInt8} (w : World) (hout : out.length < 16777216)
    (hB : BAt w base c off pl (.pointer (some ⟨q, 0, none⟩)) bs) (hq : Flag w q b) (hl : bs.length + 3 + out.length ≤ 70368744177664)
    (henter : ∀ (args : Array Value) (w : World), (callFunc k args).run Tryz.prog w = .ok (.enter k args) w) (hem : Emits base q k caps out w) :
    Calls Tryz.prog 47 #[.pointer (some ⟨c, 0, none⟩), .func (.func k) #[] caps] w fun e w' => e = .returned (.tuple #[]) ∧
      BAt w' base c off pl (.pointer (some ⟨q, 0, none⟩)) (bs ++ en 3 out.length ++ out) ∧ Fr base c w w' := by
  have h := lp_flag (m := 3) w (by omega) hout hB hq hl mk3 henter hem
  have H := Lib.hid h
  clear h hB hq hem
  go_enter Tryz.func47, Tryz.ntmps47
  go_wp2_with fail
  refine H.out.mono ?_
  rintro e w1 ⟨rfl, h1, h2⟩
  go_wp2_with fail
  go_end0
  exact ⟨rfl, h1, h2⟩

set_option maxRecDepth 100000 in
set_option maxHeartbeats 400000 in
theorem lp3_new {base c k off pl : Nat} {caps : Array Value} {bs out : List UInt8} (w : World) (hout : out.length < 16777216)
    (hB : BAt w base c off pl (.pointer none) bs) (hl : bs.length + 3 + out.length ≤ 70368744177664)
    (henter : ∀ (args : Array Value) (w : World), (callFunc k args).run Tryz.prog w = .ok (.enter k args) w) (hem : ∀ q, w.heap.size ≤ q → Emits base q k caps out w) :
    Calls Tryz.prog 47 #[.pointer (some ⟨c, 0, none⟩), .func (.func k) #[] caps] w fun e w' => ∃ q, e = .returned (.tuple #[]) ∧
      BAt w' base c off pl (.pointer (some ⟨q, 0, none⟩)) (bs ++ en 3 out.length ++ out) ∧ Flag w' q false ∧ w.heap.size ≤ q ∧ Fr base c w w' := by
  have h := lp_new (m := 3) w (by omega) hout hB hl mk3 henter hem
  have H := Lib.hid h
  clear h hB hem
  go_enter Tryz.func47, Tryz.ntmps47
  go_wp2_with fail
  refine H.out.mono ?_
  rintro e w1 ⟨q, rfl, h1, h2, h3, h4⟩
  go_wp2_with fail
  go_end0
  exact ⟨q, rfl, h1, h2, h3, h4⟩

set_option maxRecDepth 100000 in
set_option maxHeartbeats 400000 in
theorem bytes_ok {base c pl : Nat} {ic : Value} {bs : List UInt8} (w : World) (hB : BAt w base c 0 pl ic bs) :
    Calls Tryz.prog 49 #[.pointer (some ⟨c, 0, none⟩)] w fun e w' => ∃ v, e = .returned (.tuple #[v, .nilIface]) ∧ w'.ownsRow base 5 1 v bs.length (bs.map by8) ∧ w' = w.drew := by
  obtain ⟨v, hc, hown, hbase⟩ := hB
  obtain ⟨ao, cap, rfl⟩ := row_slice hown
  obtain ⟨f0, f1, f2, f3, f4, f5, f6, f7⟩ := bfacts hc
  have hcap : bs.length ≤ cap ∧ cap ≤ 9223372036854775807 := by
    rcases hown.2 with ⟨h, h2⟩ | ⟨g, cap', cur, h, _, _, h3, h4, _⟩
    · simp only [Value.slice.injEq] at h; omega
    · simp only [Value.slice.injEq] at h; unfold maxLen at h4; omega
  have HO := Lib.hid hown
  clear hc hown
  go_enter Tryz.func49, Tryz.ntmps49
  go_wp2_with fail
  refine region_tail 8 (by kernel_rfl) ?_
  simp only [List.take_succ_cons, List.take_zero, List.drop_succ_cons, List.drop_zero]
  repeat still_step
  refine wpStill_nil ?_
  go_wp2_with fail
  go_ret2
  exact ⟨_, rfl, HO.out, rfl⟩

end Go.Proofs.YtopcljikkdlffaaGreat
namespace Go.Proofs.YtopcljikkdlffaaGreat
open Go.RowKit

/-- What a captured block holds is still there when the continuation runs. -/
theorem Ks.other {base q i : Nat} {w w' : World} {C : Array Value} {T : TypeId} {fr : Nat × Nat} (h : Ks base q w w') (hi : w.heap[i]? = some (.cells C T fr)) (hT : T ≠ 5 ∧ T ≠ 96) (hq : i ≠ q) :
    w'.heap[i]? = some (.cells C T fr) := by
  rw [h.keep i (lt_of_heap hi) hq (.inr fun ⟨cs, f, e⟩ => by rw [hi] at e; simp only [Option.some.injEq, Obj.cells.injEq] at e; exact hT.1 e.2.1)
    (fun ⟨cs, f, e, _⟩ => by rw [hi] at e; simp only [Option.some.injEq, Obj.cells.injEq] at e; exact hT.2 e.2.1)]
  exact hi

theorem enter_of {k : FuncId} {fn : Func} (h : Tryz.prog.funcs[k]? = some fn) (hn : (fn.name == "runtime.NumGoroutine") = false) (hb : fn.body.isSome = true) (args : Array Value) (w : World) : (callFunc k args).run Tryz.prog w = .ok (.enter k args) w := by
  have hn' : ¬ fn.name = "runtime.NumGoroutine" := by simpa using hn
  have hb' : ¬ fn.body = none := by intro e; rw [e] at hb; cases hb
  simp [callFunc, h, hn', hb']

set_option maxRecDepth 100000 in
set_option maxHeartbeats 400000 in
theorem ku_emits {base q x m : Nat} (w : World) (hx : w.heap[x]? = some (.cells #[.pointer (some ⟨m, 0, none⟩)] 84 (0, 0))) (hm : w.heap[m]? = some (.cells #[.bool true] 86 (0, 0))) (hxq : x ≠ q) (hmq : m ≠ q) :
    Emits base q 48 #[.pointer (some ⟨x, 0, none⟩)] [1] w := by
  intro c off pl bs w' hk hf hB hl
  have c1 : w'.cell? ⟨x, 0, none⟩ = some (.pointer (some ⟨m, 0, none⟩)) := by rw [cell_of_heap (hk.other hx (by decide) hxq)]; rfl
  have c2 : w'.cell? ⟨m, 0, none⟩ = some (.bool true) := by rw [cell_of_heap (hk.other hm (by decide) hmq)]; rfl
  have HB := Lib.hid hB
  clear hk hf hB hx hm
  simp only [List.append_toArray, List.cons_append, List.nil_append]
  go_enter Tryz.func48, Tryz.ntmps48
  go_wp2_with fail
  refine (add8_ok 1 w' (by omega) (by omega) HB.out hl).mono ?_
  rintro e w1 ⟨rfl, hb, hfr⟩
  go_wp2_with fail
  go_end0
  exact ⟨rfl, hb, hfr⟩

theorem ownsRow_below {w w' : World} {base size n : Nat} {e : TypeId} {v : Value} {xs : List Value} (h : w.ownsRow base e size v n xs) (hb : Below w.heap.size w w') : w'.ownsRow base e size v n xs := by
  refine ⟨h.1, ?_⟩
  rcases h.2 with h2 | ⟨g, cap, cur, hv, hg, hh, r⟩
  · exact .inl h2
  · exact .inr ⟨g, cap, cur, hv, hg, (hb.block g (lt_of_heap hh)).trans hh, r⟩

/-- A builder that has just been laid. -/
theorem bat_new (w : World) {base : Nat} (hb : base ≤ w.heap.size) : BAt (w.alloc (.cells (bcells .nilIface (.slice none 0 0) (.pointer none) 0 0 (.pointer none)) 96)) base w.heap.size 0 0 (.pointer none) [] :=
  ⟨_, heap_alloc_new _ _, World.ownsRow_nil _ _ _ _, by simp; omega⟩

theorem ownsRow_mono {w : World} {base base' size n : Nat} {e : TypeId} {v : Value} {xs : List Value} (h : w.ownsRow base e size v n xs) (hb : base' ≤ base) : w.ownsRow base' e size v n xs := by
  refine ⟨h.1, ?_⟩
  rcases h.2 with h2 | ⟨g, cap, cur, hv, hg, r⟩
  · exact .inl h2
  · exact .inr ⟨g, cap, cur, hv, by omega, r⟩

theorem Below_drewN {B : Nat} {a w : World} (h : Below B a w) (n : Nat) : Below B a (w.drewN n) := ⟨h.os, h.tape, h.output, h.size, h.block⟩

set_option maxRecDepth 100000 in
set_option maxHeartbeats 1000000 in
theorem ku_marshal {m : Nat} (w : World) (hm : w.heap[m]? = some (.cells #[.bool true] 86 (0, 0))) :
    Calls Tryz.prog 38 #[.pointer (some ⟨m, 0, none⟩)] w fun e w' => ∃ v, e = .returned (.tuple #[v, .nilIface]) ∧ w'.ownsRow w.heap.size 5 1 v 5 ([24, 0, 0, 1, 1].map by8) ∧ Below w.heap.size w w' := by
  have HM := Lib.hid hm
  have hml := lt_of_heap hm
  have hmf' := hmf
  clear hm
  go_enter Tryz.func38, Tryz.ntmps38
  go_wp2_with fail
  have HB1 := Lib.hid (bat_new (w.alloc (.cells #[.pointer (some ⟨m, 0, none⟩)] 84)) (base := w.heap.size) (by simp))
  rw [World.size_alloc] at HB1
  refine (add8_ok (base := w.heap.size) 24 _ (by omega) (by omega) HB1.out (by simp)).mono ?_
  rintro e w2 ⟨rfl, hB2, hF2⟩
  have hx2 := hF2.other (i := w.heap.size) ((Below.heap_alloc _ _ _ (by simp)).trans (heap_alloc_new _ _)) (by decide) (by omega)
  have hm2 := hF2.other (i := m) ((Below.heap_alloc _ _ _ (by simp; omega)).trans ((Below.heap_alloc _ _ _ hml).trans HM.out)) (by decide) (by omega)
  have hsz := hF2.size
  simp only [World.size_alloc] at hsz
  have HX2 := Lib.hid hx2
  have HM2 := Lib.hid hm2
  have HB2 := Lib.hid hB2
  have HF2 := Lib.hid hF2
  clear hx2 hm2 hB2 hF2 HB1
  go_wp2_with fail
  refine (lp3_new (out := [1]) w2 (by simp) HB2.out (by simp [en]) (enter_of Tryz.func48 (by kernel_rfl) (by kernel_rfl)) (fun q hq => ku_emits w2 HX2.out HM2.out (by omega) (by omega))).mono ?_
  rintro e w3 ⟨q, rfl, hB3, hfl, hq, hF3⟩
  have HB3 := Lib.hid hB3
  have HF3 : Hid (Below w.heap.size w w3) := by
    have h1 := (HF2.out.trans hF3).below (by simp; omega) (by omega)
    exact (((Below.refl _ w).alloc (Nat.le_refl _) _).alloc (by simp) _).trans h1
  clear hB3 hF3 hfl
  go_wp2_with fail
  refine (bytes_ok w3 HB3.out).mono ?_
  rintro e w4 ⟨v, rfl, hown, rfl⟩
  have HO := Lib.hid hown
  clear hown
  go_wp2_with fail
  go_ret2
  exact ⟨v, rfl, by simpa [en] using HO.out, HF3.out.drew⟩

set_option maxRecDepth 100000 in
set_option maxHeartbeats 400000 in
theorem ku_tls (w : World) : Calls Tryz.prog 19 #[.bool true] w fun e w' => ∃ v, e = .returned (.tuple #[v, .nilIface]) ∧ w'.ownsRow w.heap.size 5 1 v 5 ([24, 0, 0, 1, 1].map by8) ∧ Below w.heap.size w w' := by
  go_enter Tryz.func19, Tryz.ntmps19
  go_wp2_with fail
  refine (ku_marshal (m := w.heap.size) _ (heap_alloc_new _ _)).mono ?_
  rintro e w1 ⟨v, rfl, hown, hbel⟩
  have HO := Lib.hid hown
  have HB := Lib.hid hbel
  clear hown hbel
  go_wp2_with fail
  go_ret2
  exact ⟨v, rfl, ownsRow_mono HO.out (by simp), ((Below.refl _ w).alloc (Nat.le_refl _) _).trans (HB.out.mono (by simp))⟩

set_option maxRecDepth 100000 in
set_option maxHeartbeats 400000 in
theorem ku_impl (w : World) : Calls Tryz.prog 9 #[.bool true] w fun e w' => ∃ v, e = .returned (.tuple #[v, .bool true]) ∧ w'.ownsRow w.heap.size 5 1 v 5 ([24, 0, 0, 1, 1].map by8) ∧ Below w.heap.size w w' := by
  go_enter Tryz.func9, Tryz.ntmps9
  go_wp2_with fail
  refine (ku_tls w).mono ?_
  rintro e w1 ⟨v, rfl, hown, hbel⟩
  have HO := Lib.hid hown
  have HB := Lib.hid hbel
  clear hown hbel
  go_wp2_with fail
  go_quiet (fail)
  go_wp2_with fail
  go_ret2
  exact ⟨v, rfl, HO.out, Below_drewN HB.out nq⟩

end Go.Proofs.YtopcljikkdlffaaGreat
