/- A rule for a statement whose order of evaluation Go leaves open: reads and reckonings may be taken in one fixed order, effects come in the order that the statement's edges force. No statement of the seat is proved here. -/
import Derived.Test.YtopcljikkdlffaaRows
import Derived.OrdersHeld
import Derived.StillTail
import Derived.WalkKit
namespace Go.Proofs.Ytopcljikkdlffaa
open Go

section
variable {P : Program} {ops : Array Oper} {Q : Exit → Act → World → Prop} {S : World → Prop}

/-- Operation i waits for every other one, straight or over one between. -/
def lastB (ops : Array Oper) (i : Nat) : Bool := (List.range ops.size).all fun k => k == i || Region.waitsFor .any ops i k || (List.range ops.size).any fun m => Region.waitsFor .any ops i m && Region.waitsFor .any ops m k

theorem lastB_spec {i k : Nat} (h : lastB ops i = true) (hk : k < ops.size) (hki : k ≠ i) : Region.waitsFor .any ops i k = true ∨ ∃ m, Region.waitsFor .any ops i m = true ∧ Region.waitsFor .any ops m k = true := by
  unfold lastB at h
  rw [List.all_eq_true] at h
  have h1 := h k (List.mem_range.2 hk)
  simp only [Bool.or_eq_true, beq_iff_eq, hki, false_or, List.any_eq_true, Bool.and_eq_true] at h1
  rcases h1 with h1 | ⟨m, _, h1⟩
  · exact .inl h1
  · exact .inr ⟨m, h1⟩

/-- What is listed has all listed that it waited for. -/
def Shut (ops : Array Oper) (listed : Array Bool) : Prop := ∀ (m : Nat) (o : Oper), ops[m]? = some o → listed.getD m false = true → ∀ e ∈ o.after, Region.binds .any e = true → listed.getD e.on false = true

theorem Shut.set {listed : Array Bool} {j : Nat} (h : Shut ops listed) (hj : j ∈ Region.ready .any ops listed) : Shut ops (listed.setIfInBounds j true) := by
  intro m o ho hm e he hb
  obtain ⟨_, oj, hoj, hall⟩ := mem_ready.1 hj
  by_cases hjm : j = m
  · subst hjm
    rw [hoj] at ho
    cases ho
    exact getD_set_true (hall e he hb)
  · rw [getD_set_ne false hjm] at hm
    exact getD_set_true (h m o ho hm e he hb)

theorem Shut.none (n : Nat) : Shut ops (Array.replicate n false) := by
  intro m o _ hm
  rw [Array.getD_eq_getD_getElem?, Array.getElem?_replicate] at hm
  split at hm <;> simp at hm

theorem not_last {listed : Array Bool} {i j : Nat} (hsh : Shut ops listed) (hi : i ∈ Region.ready .any ops listed) (hj : j ∈ Region.ready .any ops listed) (hne : j ≠ i) : lastB ops j = false := by
  cases hl : lastB ops j with
  | false => rfl
  | true =>
    obtain ⟨h0, oi, hoi, _⟩ := mem_ready.1 hi
    obtain ⟨_, oj, hoj, hall⟩ := mem_ready.1 hj
    have bad : listed.getD i false = true → False := fun h => by
      rcases Nat.lt_or_ge i listed.size with h' | h'
      · simp [h'] at h0 h; rw [h0] at h; cases h
      · simp [Array.getElem?_eq_none h'] at h
    rcases lastB_spec hl (Array.getElem?_eq_some_iff.1 hoi).1 (fun e => hne e.symm) with h | ⟨m, h1, h2⟩
    · obtain ⟨o, ho, e, he, hb, heq⟩ := Region.waitsFor_spec h
      rw [hoj] at ho
      cases ho
      exact (bad (heq ▸ hall e he hb)).elim
    · obtain ⟨o, ho, e, he, hb, heq⟩ := Region.waitsFor_spec h1
      rw [hoj] at ho
      cases ho
      have hm : listed.getD m false = true := heq ▸ hall e he hb
      obtain ⟨o2, ho2, e2, he2, hb2, heq2⟩ := Region.waitsFor_spec h2
      exact (bad (heq2 ▸ hsh m o2 ho2 hm e2 he2 hb2)).elim

/-- Whatever order is picked from here on; S holds behind every operation but one that is the last in every order. -/
def wpAnyT (P : Program) (ops : Array Oper) (Q : Exit → Act → World → Prop) (S : World → Prop) : Nat → Array Bool → Act → World → Prop
  | 0, listed, a, w => Region.ready .any ops listed = [] ∧ Q .normal a w
  | fuel + 1, listed, a, w =>
    (Region.ready .any ops listed = [] → Q .normal a w) ∧
    ∀ i ∈ Region.ready .any ops listed, wpOp P ops Q i (fun a' w' => (lastB ops i = false → S w') ∧ wpAnyT P ops Q S fuel (listed.setIfInBounds i true) a' w') a w

theorem wpAny_of_T : ∀ (fuel : Nat) (listed : Array Bool) (a : Act) (w : World), wpAnyT P ops Q S fuel listed a w → wpAny P .any ops Q fuel listed a w
  | 0, _, _, _, h => h
  | fuel + 1, _, _, _, h => ⟨h.1, fun i hi => wpOp_mono (fun a' w' h' => wpAny_of_T fuel _ a' w' h'.2) (h.2 i hi)⟩

theorem wpAnyT_first {i : Nat} {oi : Oper} {v : Value} (hi : ops[i]? = some oi) (hsel : ∀ (j : Nat) (o : Oper) cs b, ops[j]? = some o → o.op ≠ .select cs b)
    (hQ : ∀ c a w, Q (.panic c) (a.put oi.dst v) w → Q (.panic c) a w) :
    ∀ (fuel : Nat) (listed : Array Bool) (a : Act) (w : World),
      (∀ j oj, ops[j]? = some oj → j ≠ i → listed.getD j true = false → (∀ e ∈ oj.after, Region.binds .any e = true → e.on ≠ i) → oi.apart ops oj = true) →
      Shut ops listed → i ∈ Region.ready .any ops listed → YieldsIf P ops S oi v a → S w →
      wpAnyT P ops Q S fuel (listed.setIfInBounds i true) (a.put oi.dst v) w → wpAnyT P ops Q S (fuel + 1) listed a w := by
  intro fuel
  induction fuel with
  | zero =>
    intro listed a w _ _ hr hy hS H
    refine ⟨fun h => (by rw [h] at hr; cases hr), fun j hj => ?_⟩
    by_cases hji : j = i
    · subst hji; exact hy.wpOp hi hS ⟨fun _ => hS, H⟩
    · have := ready_mono hj hji
      rw [H.1] at this
      cases this
  | succ fuel ih =>
    intro listed a w hfree hsh hr hy hS H
    refine ⟨fun h => (by rw [h] at hr; cases hr), fun j hj => ?_⟩
    by_cases hji : j = i
    · subst hji; exact hy.wpOp hi hS ⟨fun _ => hS, H⟩
    · have h1 := H.2 j (ready_mono hj hji)
      obtain ⟨hjun, oj, hoj, hall⟩ := mem_ready.1 hj
      have hnot : ∀ e ∈ oj.after, Region.binds .any e = true → e.on ≠ i := fun e he hb heq => by
        have h1 := hall e he hb
        have h0 := (mem_ready.1 hr).1
        rw [heq] at h1
        rcases Nat.lt_or_ge i listed.size with h' | h'
        · simp [h'] at h0 h1; rw [h0] at h1; cases h1
        · simp [Array.getElem?_eq_none h'] at h1
      have hlast : lastB ops j = false := not_last hsh hr hj hji
      have h2 := wpOp_putIf hoj (hfree j oj hoj hji hjun hnot) (fun cs b => hsel i oi cs b hi) (fun cs b => hsel j oj cs b hoj) hQ hy h1
      have hfree' : ∀ k ok, ops[k]? = some ok → k ≠ i → (listed.setIfInBounds j true).getD k true = false →
          (∀ e ∈ ok.after, Region.binds .any e = true → e.on ≠ i) → oi.apart ops ok = true := fun k ok hk hki hun hno => by
        refine hfree k ok hk hki ?_ hno
        by_cases hjk : j = k
        · subst hjk; exact hjun
        · rw [getD_set_ne true hjk] at hun; exact hun
      refine wpOp_mono (fun a' w' h3 => ⟨fun _ => h3.2.1 hlast, ih (listed.setIfInBounds j true) a' w' hfree' (hsh.set hj) (ready_mono hr (Ne.symm hji)) h3.1 (h3.2.1 hlast) ?_⟩) h2
      rw [Array.setIfInBounds_comm _ _ hji]
      exact h3.2.2

/-- The operations in one order that the edges allow: (i, true): number i reads or reckons; (i, false): it has an effect. -/
def wpOrd (P : Program) (ops : Array Oper) (Q : Exit → Act → World → Prop) (S : World → Prop) : List (Nat × Bool) → Act → World → Prop
  | [], a, w => Q .normal a w
  | (i, true) :: rest, a, w => ∃ o, ops[i]? = some o ∧ ∃ v, YieldsIf P ops S o v a ∧ wpOrd P ops Q S rest (a.put o.dst v) w
  | (i, false) :: rest, a, w => wpOp P ops Q i (fun a' w' => (lastB ops i = false → S w') ∧ wpOrd P ops Q S rest a' w') a w

/-- That order is allowed, what is taken first may be, and effects come up alone. -/
def okOrd (ops : Array Oper) : List (Nat × Bool) → Array Bool → Bool
  | [], listed => Region.ready .any ops listed == []
  | (i, true) :: rest, listed => (Region.ready .any ops listed).contains i && Region.free .any ops listed i && okOrd ops rest (listed.setIfInBounds i true)
  | (i, false) :: rest, listed => Region.ready .any ops listed == [i] && (!lastB ops i || rest.isEmpty) && okOrd ops rest (listed.setIfInBounds i true)

theorem wpAnyT_of_ord (hsel : Region.noSelect ops = true) (hQ : ∀ c a (d : Option Tmp) v w, Q (.panic c) (a.put d v) w → Q (.panic c) a w) :
    ∀ (l : List (Nat × Bool)) (listed : Array Bool) (a : Act) (w : World), okOrd ops l listed = true → Shut ops listed → (l ≠ [] → S w) → wpOrd P ops Q S l a w → wpAnyT P ops Q S l.length listed a w
  | [], listed, a, w, hok, _, _, h => ⟨by simpa [okOrd] using hok, h⟩
  | (i, true) :: rest, listed, a, w, hok, hsh, hS, h => by
    obtain ⟨o, ho, v, hy, h⟩ := h
    simp only [okOrd, Bool.and_eq_true] at hok
    obtain ⟨⟨h1, h2⟩, h3⟩ := hok
    have hS' := hS (by simp)
    exact wpAnyT_first ho (Region.noSelect_spec hsel) (fun c a w => hQ c a _ _ w) rest.length listed a w (Region.free_spec ho h2) hsh (by simpa using h1) hy hS'
      (wpAnyT_of_ord hsel hQ rest _ _ w h3 (hsh.set (by simpa using h1)) (fun _ => hS') h)
  | (i, false) :: rest, listed, a, w, hok, hsh, hS, h => by
    simp only [okOrd, Bool.and_eq_true, beq_iff_eq] at hok
    obtain ⟨⟨h1, h2⟩, h3⟩ := hok
    refine ⟨fun h0 => (by rw [h0] at h1; cases h1), fun j hj => ?_⟩
    rw [h1] at hj
    obtain rfl : j = i := by simpa using hj
    refine wpOp_mono (fun a' w' h' => ⟨h'.1, wpAnyT_of_ord hsel hQ rest _ a' w' h3 (hsh.set (by rw [h1]; simp)) (fun hne => h'.1 ?_) h'.2⟩) h
    cases hl : lastB ops j with
    | false => rfl
    | true =>
      rw [hl] at h2
      cases rest with
      | nil => exact (hne rfl).elim
      | cons x xs => simp at h2

/-- A region that draws its order. -/
theorem region_ord {id : Nat} {a : Act} {w : World} {l : List Oper} (ord : List (Nat × Bool)) (S : World → Prop) (hm : P.follows .mixedOrders = true) (hsel : Region.noSelect l.toArray = true)
    (hok : okOrd l.toArray ord (Array.replicate l.toArray.size false) = true) (hlen : ord.length = l.length) (hQ : ∀ c a (d : Option Tmp) v w, Q (.panic c) (a.put d v) w → Q (.panic c) a w)
    (hS : S w.drew) (h : wpOrd P l.toArray Q S ord a w.drew) : (Code.region id l.toArray true).wp P Q a w := by
  refine wp_region_any hm ?_
  have H := wpAny_of_T _ _ _ _ (wpAnyT_of_ord hsel hQ ord _ a w.drew hok (Shut.none _) (fun _ => hS) h)
  rw [hlen, ← List.size_toArray] at H
  exact H

theorem wpOrd_nil {a : Act} {w : World} (h : Q .normal a w) : wpOrd P ops Q S [] a w := h

theorem wpOrd_take {i : Nat} {o : Oper} {v : Value} {rest : List (Nat × Bool)} {a : Act} {w : World} (ho : ops[i]? = some o) (hg : o.guard = none)
    (hv : ∀ w', S w' → (execOp a.eval o).run P w' = .ok (.value v) w') (h : wpOrd P ops Q S rest (a.put o.dst v) w) : wpOrd P ops Q S ((i, true) :: rest) a w :=
  ⟨o, ho, v, .inl ⟨by simp [Region.wanted, hg], hv⟩, h⟩

theorem wpOrd_pure {i : Nat} {o : Oper} {rest : List (Nat × Bool)} {a : Act} {w : World} (ho : ops[i]? = some o) (hg : o.guard = none)
    (h : ∃ v, (∀ w', S w' → (execOp a.eval o).run P w' = .ok (.value v) w') ∧ wpOrd P ops Q S rest (a.put o.dst v) w) : wpOrd P ops Q S ((i, true) :: rest) a w := by
  obtain ⟨v, h1, h2⟩ := h
  exact wpOrd_take ho hg h1 h2

theorem wpOrd_run {i : Nat} {o : Oper} {rest : List (Nat × Bool)} {a : Act} {w : World} (ho : ops[i]? = some o) (hg : o.guard = none)
    (h : ∀ K : Act → World → Prop, (∀ a w, (lastB ops i = false → S w) → wpOrd P ops Q S rest a w → K a w) → o.wp P a w K Q) : wpOrd P ops Q S ((i, false) :: rest) a w := by
  unfold wpOrd wpOp
  simp only [ho, Region.wanted, hg, if_true]
  exact .inl (h _ fun a w hS hr => ⟨hS, hr⟩)

theorem wpOrd_last {i : Nat} {o : Oper} {rest : List (Nat × Bool)} {a : Act} {w : World} (ho : ops[i]? = some o) (hg : o.guard = none) (hl : lastB ops i = true)
    (h : ∀ K : Act → World → Prop, (∀ a w, wpOrd P ops Q S rest a w → K a w) → o.wp P a w K Q) : wpOrd P ops Q S ((i, false) :: rest) a w :=
  wpOrd_run ho hg fun K hK => h K fun a w hr => hK a w (fun hf => by rw [hl] at hf; cases hf) hr

end
end Go.Proofs.Ytopcljikkdlffaa
