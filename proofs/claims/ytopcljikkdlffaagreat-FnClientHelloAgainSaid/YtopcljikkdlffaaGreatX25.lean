/- A rule for a statement whose order of evaluation Go leaves open, in which two effects may come in either order; what is read need not stand behind the effects that come when all is read. No statement of the seat is proved here. -/
import Derived.Test.YtopcljikkdlffaaGreatX01
namespace Go.Proofs.YtopcljikkdlffaaGreat
open Go

section
variable {P : Program} {ops : Array Oper} {Q : Exit → Act → World → Prop} {S : World → Prop} {need : List Nat}

/-- Operation i waits for all that read, straight or over one or two between. -/
def lateB (need : List Nat) (ops : Array Oper) (i : Nat) : Bool := need.all fun k => Region.waitsFor .any ops i k || (List.range ops.size).any fun m => Region.waitsFor .any ops i m && (Region.waitsFor .any ops m k || (List.range ops.size).any fun n => Region.waitsFor .any ops m n && Region.waitsFor .any ops n k)

theorem not_late {listed : Array Bool} {i j : Nat} (hn : i ∈ need) (hsh : Shut ops listed) (hi : i ∈ Region.ready .any ops listed) (hj : j ∈ Region.ready .any ops listed) : lateB need ops j = false := by
  cases hl : lateB need ops j with
  | false => rfl
  | true =>
    obtain ⟨h0, oi, hoi, _⟩ := mem_ready.1 hi
    obtain ⟨_, oj, hoj, hall⟩ := mem_ready.1 hj
    have bad : listed.getD i false = true → False := fun h => by
      rcases Nat.lt_or_ge i listed.size with h' | h'
      · simp [h'] at h0 h; rw [h0] at h; cases h
      · simp [Array.getElem?_eq_none h'] at h
    have first : ∀ {k : Nat}, Region.waitsFor .any ops j k = true → listed.getD k false = true := fun {k} h => by
      obtain ⟨o, ho, e, he, hb, heq⟩ := Region.waitsFor_spec h
      rw [hoj] at ho
      cases ho
      exact heq ▸ hall e he hb
    have next : ∀ {m k : Nat}, listed.getD m false = true → Region.waitsFor .any ops m k = true → listed.getD k false = true := fun {m k} hm h => by
      obtain ⟨o, ho, e, he, hb, heq⟩ := Region.waitsFor_spec h
      exact heq ▸ hsh m o ho hm e he hb
    unfold lateB at hl
    have h1 := List.all_eq_true.1 hl i hn
    simp only [Bool.or_eq_true, Bool.and_eq_true, List.any_eq_true] at h1
    rcases h1 with h1 | ⟨m, _, h2, h3 | ⟨n, _, h3, h4⟩⟩
    · exact (bad (first h1)).elim
    · exact (bad (next (first h2) h3)).elim
    · exact (bad (next (next (first h2) h3) h4)).elim

/-- Whatever order is picked from here on; S holds behind every operation but those that wait for all that read. -/
def wpAnyN (P : Program) (ops : Array Oper) (Q : Exit → Act → World → Prop) (S : World → Prop) (need : List Nat) : Nat → Array Bool → Act → World → Prop
  | 0, listed, a, w => Region.ready .any ops listed = [] ∧ Q .normal a w
  | fuel + 1, listed, a, w =>
    (Region.ready .any ops listed = [] → Q .normal a w) ∧
    ∀ i ∈ Region.ready .any ops listed, wpOp P ops Q i (fun a' w' => (lateB need ops i = false → S w → S w') ∧ wpAnyN P ops Q S need fuel (listed.setIfInBounds i true) a' w') a w

theorem wpAny_of_N : ∀ (fuel : Nat) (listed : Array Bool) (a : Act) (w : World), wpAnyN P ops Q S need fuel listed a w → wpAny P .any ops Q fuel listed a w
  | 0, _, _, _, h => h
  | fuel + 1, _, _, _, h => ⟨h.1, fun i hi => wpOp_mono (fun a' w' h' => wpAny_of_N fuel _ a' w' h'.2) (h.2 i hi)⟩

theorem wpAnyN_first {i : Nat} {oi : Oper} {v : Value} {T : World → Prop} (hi : ops[i]? = some oi) (hsel : ∀ (j : Nat) (o : Oper) cs b, ops[j]? = some o → o.op ≠ .select cs b)
    (hQ : ∀ c a w, Q (.panic c) (a.put oi.dst v) w → Q (.panic c) a w)
    (hT : ∀ (listed : Array Bool) (j : Nat) (w w' : World), Shut ops listed → i ∈ Region.ready .any ops listed → j ∈ Region.ready .any ops listed → T w → (lateB need ops j = false → S w → S w') → T w') :
    ∀ (fuel : Nat) (listed : Array Bool) (a : Act) (w : World),
      (∀ j oj, ops[j]? = some oj → j ≠ i → listed.getD j true = false → (∀ e ∈ oj.after, Region.binds .any e = true → e.on ≠ i) → oi.apart ops oj = true) →
      Shut ops listed → i ∈ Region.ready .any ops listed → YieldsIf P ops T oi v a → T w →
      wpAnyN P ops Q S need fuel (listed.setIfInBounds i true) (a.put oi.dst v) w → wpAnyN P ops Q S need (fuel + 1) listed a w := by
  intro fuel
  induction fuel with
  | zero =>
    intro listed a w _ _ hr hy hS H
    refine ⟨fun h => (by rw [h] at hr; cases hr), fun j hj => ?_⟩
    by_cases hji : j = i
    · subst hji; exact hy.wpOp hi hS ⟨fun _ h => h, H⟩
    · have := ready_mono hj hji
      rw [H.1] at this
      cases this
  | succ fuel ih =>
    intro listed a w hfree hsh hr hy hS H
    refine ⟨fun h => (by rw [h] at hr; cases hr), fun j hj => ?_⟩
    by_cases hji : j = i
    · subst hji; exact hy.wpOp hi hS ⟨fun _ h => h, H⟩
    · have h1 := H.2 j (ready_mono hj hji)
      obtain ⟨hjun, oj, hoj, hall⟩ := mem_ready.1 hj
      have hnot : ∀ e ∈ oj.after, Region.binds .any e = true → e.on ≠ i := fun e he hb heq => by
        have h1 := hall e he hb
        have h0 := (mem_ready.1 hr).1
        rw [heq] at h1
        rcases Nat.lt_or_ge i listed.size with h' | h'
        · simp [h'] at h0 h1; rw [h0] at h1; cases h1
        · simp [Array.getElem?_eq_none h'] at h1
      have h2 := wpOp_putIf hoj (hfree j oj hoj hji hjun hnot) (fun cs b => hsel i oi cs b hi) (fun cs b => hsel j oj cs b hoj) hQ hy h1
      have hfree' : ∀ k ok, ops[k]? = some ok → k ≠ i → (listed.setIfInBounds j true).getD k true = false →
          (∀ e ∈ ok.after, Region.binds .any e = true → e.on ≠ i) → oi.apart ops ok = true := fun k ok hk hki hun hno => by
        refine hfree k ok hk hki ?_ hno
        by_cases hjk : j = k
        · subst hjk; exact hjun
        · rw [getD_set_ne true hjk] at hun; exact hun
      refine wpOp_mono (fun a' w' h3 => ⟨h3.2.1, ih (listed.setIfInBounds j true) a' w' hfree' (hsh.set hj) (ready_mono hr (Ne.symm hji)) h3.1 (hT listed j w w' hsh hr hj hS h3.2.1) ?_⟩) h2
      rw [Array.setIfInBounds_comm _ _ hji]
      exact h3.2.2

/-- Orders that the edges allow: read: number i reads, under S; free: it reckons; one: it comes up alone; two: either of two may come up. -/
inductive OT
  | done
  | read (i : Nat) (t : OT)
  | free (i : Nat) (t : OT)
  | one (i : Nat) (t : OT)
  | two (i : Nat) (s : OT) (j : Nat) (t : OT)

def OT.len : OT → Nat
  | .done => 0
  | .read _ t => t.len + 1
  | .free _ t => t.len + 1
  | .one _ t => t.len + 1
  | .two _ s _ _ => s.len + 1

def okT (need : List Nat) (ops : Array Oper) : OT → Array Bool → Bool
  | .done, listed => Region.ready .any ops listed == []
  | .read i t, listed => need.contains i && (Region.ready .any ops listed).contains i && Region.free .any ops listed i && okT need ops t (listed.setIfInBounds i true)
  | .free i t, listed => (Region.ready .any ops listed).contains i && Region.free .any ops listed i && okT need ops t (listed.setIfInBounds i true)
  | .one i t, listed => Region.ready .any ops listed == [i] && okT need ops t (listed.setIfInBounds i true)
  | .two i s j t, listed => Region.ready .any ops listed == [i, j] && s.len == t.len && okT need ops s (listed.setIfInBounds i true) && okT need ops t (listed.setIfInBounds j true)

def wpT (P : Program) (ops : Array Oper) (Q : Exit → Act → World → Prop) (S : World → Prop) (need : List Nat) : OT → Act → World → Prop
  | .done, a, w => Q .normal a w
  | .read i t, a, w => S w ∧ ∃ o, ops[i]? = some o ∧ ∃ v, YieldsIf P ops S o v a ∧ wpT P ops Q S need t (a.put o.dst v) w
  | .free i t, a, w => ∃ o, ops[i]? = some o ∧ ∃ v, YieldsIf P ops (fun _ => True) o v a ∧ wpT P ops Q S need t (a.put o.dst v) w
  | .one i t, a, w => wpOp P ops Q i (fun a' w' => (lateB need ops i = false → S w → S w') ∧ wpT P ops Q S need t a' w') a w
  | .two i s j t, a, w => wpOp P ops Q i (fun a' w' => (lateB need ops i = false → S w → S w') ∧ wpT P ops Q S need s a' w') a w ∧ wpOp P ops Q j (fun a' w' => (lateB need ops j = false → S w → S w') ∧ wpT P ops Q S need t a' w') a w

theorem wpAnyN_of_tree (hsel : Region.noSelect ops = true) (hQ : ∀ c a (d : Option Tmp) v w, Q (.panic c) (a.put d v) w → Q (.panic c) a w) :
    ∀ (t : OT) (listed : Array Bool) (a : Act) (w : World), okT need ops t listed = true → Shut ops listed → wpT P ops Q S need t a w → wpAnyN P ops Q S need t.len listed a w
  | .done, listed, a, w, hok, _, h => ⟨by simpa [okT] using hok, h⟩
  | .read i t, listed, a, w, hok, hsh, h => by
    obtain ⟨hS, o, ho, v, hy, h⟩ := h
    simp only [okT, Bool.and_eq_true] at hok
    obtain ⟨⟨⟨h0, h1⟩, h2⟩, h3⟩ := hok
    exact wpAnyN_first (T := S) ho (Region.noSelect_spec hsel) (fun c a w => hQ c a _ _ w) (fun listed j w w' hsh hi hj hw h => h (not_late (by simpa using h0) hsh hi hj) hw) t.len listed a w (Region.free_spec ho h2) hsh (by simpa using h1) hy hS
      (wpAnyN_of_tree hsel hQ t _ _ w h3 (hsh.set (by simpa using h1)) h)
  | .free i t, listed, a, w, hok, hsh, h => by
    obtain ⟨o, ho, v, hy, h⟩ := h
    simp only [okT, Bool.and_eq_true] at hok
    obtain ⟨⟨h1, h2⟩, h3⟩ := hok
    exact wpAnyN_first (T := fun _ => True) ho (Region.noSelect_spec hsel) (fun c a w => hQ c a _ _ w) (fun _ _ _ _ _ _ _ _ _ => trivial) t.len listed a w (Region.free_spec ho h2) hsh (by simpa using h1) hy trivial
      (wpAnyN_of_tree hsel hQ t _ _ w h3 (hsh.set (by simpa using h1)) h)
  | .one i t, listed, a, w, hok, hsh, h => by
    simp only [okT, Bool.and_eq_true, beq_iff_eq] at hok
    obtain ⟨h1, h3⟩ := hok
    refine ⟨fun h0 => (by rw [h0] at h1; cases h1), fun j hj => ?_⟩
    rw [h1] at hj
    obtain rfl : j = i := by simpa using hj
    exact wpOp_mono (fun a' w' h' => ⟨h'.1, wpAnyN_of_tree hsel hQ t _ a' w' h3 (hsh.set (by rw [h1]; simp)) h'.2⟩) h
  | .two i s k t, listed, a, w, hok, hsh, h => by
    simp only [okT, Bool.and_eq_true, beq_iff_eq] at hok
    obtain ⟨⟨⟨h1, hl⟩, h3⟩, h4⟩ := hok
    refine ⟨fun h0 => (by rw [h0] at h1; cases h1), fun j hj => ?_⟩
    rw [h1] at hj
    simp only [List.mem_cons, List.not_mem_nil, or_false] at hj
    rcases hj with rfl | rfl
    · exact wpOp_mono (fun a' w' h' => ⟨h'.1, wpAnyN_of_tree hsel hQ s _ a' w' h3 (hsh.set (by rw [h1]; simp)) h'.2⟩) h.1
    · refine wpOp_mono (fun a' w' h' => ⟨h'.1, ?_⟩) h.2
      have h5 := wpAnyN_of_tree hsel hQ t _ a' w' h4 (hsh.set (by rw [h1]; simp)) h'.2
      rw [← hl] at h5
      exact h5

/-- A region that draws its order. -/
theorem region_tree {id : Nat} {a : Act} {w : World} {l : List Oper} (t : OT) (need : List Nat) (S : World → Prop) (hm : P.follows .mixedOrders = true) (hsel : Region.noSelect l.toArray = true)
    (hok : okT need l.toArray t (Array.replicate l.toArray.size false) = true) (hlen : t.len = l.length) (hQ : ∀ c a (d : Option Tmp) v w, Q (.panic c) (a.put d v) w → Q (.panic c) a w)
    (h : wpT P l.toArray Q S need t a w.drew) : (Code.region id l.toArray true).wp P Q a w := by
  refine wp_region_any hm ?_
  have H := wpAny_of_N _ _ _ _ (wpAnyN_of_tree hsel hQ t _ a w.drew hok (Shut.none _) h)
  rw [hlen, ← List.size_toArray] at H
  exact H

theorem wpT_read {i : Nat} {o : Oper} {t : OT} {a : Act} {w : World} (hS : S w) (ho : ops[i]? = some o) (hg : o.guard = none) (h : ∃ v, (∀ w', S w' → (execOp a.eval o).run P w' = .ok (.value v) w') ∧ wpT P ops Q S need t (a.put o.dst v) w) : wpT P ops Q S need (.read i t) a w := by
  obtain ⟨v, hr, h⟩ := h
  exact ⟨hS, o, ho, v, .inl ⟨by simp [Region.wanted, hg], hr⟩, h⟩

theorem wpT_free {i : Nat} {o : Oper} {t : OT} {a : Act} {w : World} (ho : ops[i]? = some o) (hg : o.guard = none) (h : ∃ v, (∀ w', (execOp a.eval o).run P w' = .ok (.value v) w') ∧ wpT P ops Q S need t (a.put o.dst v) w) : wpT P ops Q S need (.free i t) a w := by
  obtain ⟨v, hr, h⟩ := h
  exact ⟨o, ho, v, .inl ⟨by simp [Region.wanted, hg], fun w' _ => hr w'⟩, h⟩

theorem wpT_op {i : Nat} {o : Oper} {a : Act} {w : World} {R : Act → World → Prop} (ho : ops[i]? = some o) (hg : o.guard = none)
    (h : ∀ K : Act → World → Prop, (∀ a' w', (lateB need ops i = false → S w → S w') → R a' w' → K a' w') → o.wp P a w K Q) : wpOp P ops Q i (fun a' w' => (lateB need ops i = false → S w → S w') ∧ R a' w') a w := by
  unfold wpOp
  simp only [ho, Region.wanted, hg, if_true]
  exact .inl (h _ fun a' w' hS hr => ⟨hS, hr⟩)

theorem wpT_late {i : Nat} {o : Oper} {a : Act} {w : World} {R : Act → World → Prop} (ho : ops[i]? = some o) (hg : o.guard = none) (hl : lateB need ops i = true)
    (h : ∀ K : Act → World → Prop, (∀ a' w', R a' w' → K a' w') → o.wp P a w K Q) : wpOp P ops Q i (fun a' w' => (lateB need ops i = false → S w → S w') ∧ R a' w') a w :=
  wpT_op ho hg fun K hK => h K fun a' w' hr => hK a' w' (fun hf => by rw [hl] at hf; cases hf) hr

theorem wpT_two {i j : Nat} {oi oj : Oper} {s t : OT} {a : Act} {w : World} (hi : ops[i]? = some oi) (gi : oi.guard = none) (hj : ops[j]? = some oj) (gj : oj.guard = none)
    (h1 : ∀ K : Act → World → Prop, (∀ a' w', (lateB need ops i = false → S w → S w') → wpT P ops Q S need s a' w' → K a' w') → oi.wp P a w K Q)
    (h2 : ∀ K : Act → World → Prop, (∀ a' w', (lateB need ops j = false → S w → S w') → wpT P ops Q S need t a' w' → K a' w') → oj.wp P a w K Q) : wpT P ops Q S need (.two i s j t) a w :=
  ⟨wpT_op hi gi h1, wpT_op hj gj h2⟩
theorem wpT_one {i : Nat} {oi : Oper} {t : OT} {a : Act} {w : World} (hi : ops[i]? = some oi) (gi : oi.guard = none)
    (h1 : ∀ K : Act → World → Prop, (∀ a' w', (lateB need ops i = false → S w → S w') → wpT P ops Q S need t a' w' → K a' w') → oi.wp P a w K Q) : wpT P ops Q S need (.one i t) a w := wpT_op hi gi h1
theorem wpT_oneL {i : Nat} {oi : Oper} {t : OT} {a : Act} {w : World} (hi : ops[i]? = some oi) (gi : oi.guard = none) (hl : lateB need ops i = true)
    (h1 : ∀ K : Act → World → Prop, (∀ a' w', wpT P ops Q S need t a' w' → K a' w') → oi.wp P a w K Q) : wpT P ops Q S need (.one i t) a w := wpT_late hi gi hl h1
theorem wpT_done {a : Act} {w : World} (h : Q .normal a w) : wpT P ops Q S need .done a w := h

end
end Go.Proofs.YtopcljikkdlffaaGreat
