/- A rule for a long statement whose order of evaluation Go leaves open, with a check that is cheap: each of the first operations lays its own slot, the slots rise, and what it reads it waits for. No statement of the seat is proved here. -/
import Derived.Test.YtopcljikkdlffaaOrd
namespace Go.Proofs.Ytopcljikkdlffaa
open Go

section
variable {P : Program} {ops : Array Oper} {Q : Exit → Act → World → Prop} {S : World → Prop}

/-- Operation i of the head: it lays slot D + i; it waits for earlier ones alone; what it reads of the head's slots it waits for. -/
def headB (ops : Array Oper) (D i : Nat) (o : Oper) : Bool :=
  o.dst == some (D + i) && o.after.all (fun e => !Region.binds .any e || decide (e.on < i)) &&
    (o.looksAt ops).all (fun t => decide (t < D) || (decide (t < D + i) && o.after.any (fun e => Region.binds .any e && e.on == t - D)))

/-- An operation behind the head waits for all of it, and lays no slot that the head reads. -/
def behindB (n : Nat) (o : Oper) : Bool := (List.range n).all fun j => o.after.any (fun e => Region.binds .any e && e.on == j)

def lineB (ops : Array Oper) (D n : Nat) : Bool := (List.range ops.size).all fun i => match ops[i]? with
  | some o => if i < n then headB ops D i o else behindB n o
  | none => true

/-- The first k are listed. -/
def firstK (ops : Array Oper) (k : Nat) : Array Bool := ((List.range ops.size).map fun j => decide (j < k)).toArray

theorem firstK_get (k j : Nat) : (firstK ops k)[j]? = if j < ops.size then some (decide (j < k)) else none := by
  unfold firstK
  rw [List.getElem?_toArray, List.getElem?_map]
  by_cases h : j < ops.size
  · rw [List.getElem?_range h, if_pos h]; rfl
  · rw [List.getElem?_eq_none (by simp; omega), if_neg h]; rfl

theorem firstK_set {k : Nat} : (firstK ops k).setIfInBounds k true = firstK ops (k + 1) := by
  apply Array.ext_getElem?
  intro j
  rw [Array.getElem?_setIfInBounds, firstK_get, firstK_get]
  have hs : (firstK ops k).size = ops.size := by simp [firstK]
  rw [hs]
  by_cases hk : k = j
  · subst hk
    simp
  · simp only [hk, if_false]
    split
    · have : (decide (j < k)) = decide (j < k + 1) := by
        rw [decide_eq_decide]; omega
      rw [this]
    · rfl

theorem okOrd_line {D n : Nat} {tl : List (Nat × Bool)} (hl : lineB ops D n = true) (hn : n ≤ ops.size) (ht : okOrd ops tl (firstK ops n) = true) :
    ∀ (m k : Nat), k + m = n → okOrd ops ((List.range' k m).map (fun i => (i, true)) ++ tl) (firstK ops k) = true := by
  have hall : ∀ i o, ops[i]? = some o → (if i < n then headB ops D i o else behindB n o) = true := by
    intro i o ho
    unfold lineB at hl
    rw [List.all_eq_true] at hl
    have h := hl i (List.mem_range.2 (Array.getElem?_eq_some_iff.1 ho).1)
    rw [ho] at h
    exact h
  intro m
  induction m with
  | zero =>
    intro k hk
    obtain rfl : k = n := by omega
    simpa using ht
  | succ m ih =>
    intro k hk
    have hkl : k < ops.size := by omega
    have hok : ops[k]? = some ops[k] := Array.getElem?_eq_getElem hkl
    have hhead := hall k _ hok
    rw [if_pos (by omega)] at hhead
    simp only [headB, Bool.and_eq_true, beq_iff_eq] at hhead
    obtain ⟨⟨hd, hafter⟩, hlook⟩ := hhead
    rw [List.range'_succ]
    simp only [List.map_cons, List.cons_append, okOrd, Bool.and_eq_true]
    refine ⟨⟨?_, ?_⟩, ?_⟩
    · rw [List.contains_iff_mem, mem_ready]
      refine ⟨?_, _, hok, fun e he hb => ?_⟩
      · rw [Array.getD_eq_getD_getElem?, firstK_get, if_pos hkl]; simp
      · have h := Array.all_eq_true_iff_forall_mem.1 hafter e he
        simp only [hb, Bool.not_true, Bool.false_or, decide_eq_true_eq] at h
        rw [Array.getD_eq_getD_getElem?, firstK_get, if_pos (by omega)]
        simp [h]
    · unfold Region.free
      rw [hok]
      simp only [List.all_eq_true, List.mem_range]
      intro j hj
      by_cases hjk : j = k
      · simp [hjk]
      · rcases Nat.lt_or_ge j k with hlt | hge
        · have : (firstK ops k).getD j true = true := by
            rw [Array.getD_eq_getD_getElem?, firstK_get, if_pos hj]; simp [hlt]
          simp [this]
        · have hoj : ops[j]? = some ops[j] := Array.getElem?_eq_getElem hj
          rw [hoj]
          simp only [Bool.or_eq_true]
          right
          have h := hall j _ hoj
          by_cases hjn : j < n
          · rw [if_pos hjn] at h
            simp only [headB, Bool.and_eq_true, beq_iff_eq] at h
            obtain ⟨⟨hdj, _⟩, hlookj⟩ := h
            by_cases hw : ops[j].after.any (fun e => Region.binds .any e && e.on == k) = true
            · exact .inl hw
            · right
              have h1 : (D + k) ∉ ops[j].looksAt ops := by
                intro hm
                have h := List.all_eq_true.1 hlookj _ hm
                simp only [Bool.or_eq_true, Bool.and_eq_true, decide_eq_true_eq] at h
                rcases h with h | ⟨_, h⟩
                · have h' : (D + k : Nat) < D := h
                  omega
                · rw [Nat.add_sub_cancel_left] at h
                  exact hw h
              have h2 : (D + j) ∉ ops[k].looksAt ops := by
                intro hm
                have h := List.all_eq_true.1 hlook _ hm
                simp only [Bool.or_eq_true, Bool.and_eq_true, decide_eq_true_eq] at h
                rcases h with h | ⟨h, _⟩
                · have h' : (D + j : Nat) < D := h
                  omega
                · have h' : (D + j : Nat) < D + k := h
                  omega
              unfold Oper.apart
              rw [hd, hdj]
              simp only [Bool.and_eq_true, Bool.not_eq_true', bne_iff_ne, ne_eq, Option.some.injEq]
              refine ⟨⟨?_, by omega⟩, ?_⟩
              · rw [← Bool.not_eq_true, List.contains_iff_mem]; exact h1
              · rw [← Bool.not_eq_true, List.contains_iff_mem]; exact h2
          · rw [if_neg hjn] at h
            left
            unfold behindB at h
            exact List.all_eq_true.1 h k (List.mem_range.2 (by omega))
    · rw [firstK_set]
      exact ih (k + 1) (by omega)

/-- Reads and reckonings, one behind the other, and then the rest of an order. -/
def wpLine (P : Program) (ops : Array Oper) (Q : Exit → Act → World → Prop) (S : World → Prop) (tl : List (Nat × Bool)) : Nat → List Oper → Act → World → Prop
  | _, [], a, w => wpOrd P ops Q S tl a w
  | i, o :: rest, a, w => ∃ v, (∀ w', S w' → (execOp a.eval o).run P w' = .ok (.value v) w') ∧ wpLine P ops Q S tl (i + 1) rest (a.put o.dst v) w

theorem wpOrd_of_line {tl : List (Nat × Bool)} : ∀ (l : List Oper) (i : Nat) (a : Act) (w : World), (∀ j, j < l.length → ops[i + j]? = l[j]?) → l.all (fun o => o.guard.isNone) = true → wpLine P ops Q S tl i l a w →
    wpOrd P ops Q S ((List.range' i l.length).map (fun i => (i, true)) ++ tl) a w
  | [], _, _, _, _, _, h => h
  | o :: rest, i, a, w, hl, hg, ⟨v, hr, h⟩ => by
    simp only [List.all_cons, Bool.and_eq_true, Option.isNone_iff_eq_none] at hg
    rw [List.length_cons, List.range'_succ]
    refine ⟨o, ?_, v, .inl ⟨by simp [Region.wanted, hg.1], hr⟩, ?_⟩
    · have := hl 0 (by simp)
      simpa using this
    · refine wpOrd_of_line rest (i + 1) _ w (fun j hj => ?_) hg.2 h
      have := hl (j + 1) (by simp; omega)
      rw [show i + 1 + j = i + (j + 1) by omega, this]
      simp

/-- A long region that draws its order: n operations that read or reckon, then the tail. -/
theorem region_line {id : Nat} {a : Act} {w : World} {l : List Oper} (D n : Nat) (tl : List (Nat × Bool)) (S : World → Prop) (hm : P.follows .mixedOrders = true) (hsel : Region.noSelect l.toArray = true)
    (hn : n + tl.length = l.length) (hl : lineB l.toArray D n = true) (ht : okOrd l.toArray tl (firstK l.toArray n) = true) (hg : (l.take n).all (fun o => o.guard.isNone) = true)
    (hQ : ∀ c a (d : Option Tmp) v w, Q (.panic c) (a.put d v) w → Q (.panic c) a w) (hS : S w.drew) (h : wpLine P l.toArray Q S tl 0 (l.take n) a w.drew) :
    (Code.region id l.toArray true).wp P Q a w := by
  have hlen : (l.take n).length = n := by simp; omega
  have h1 := okOrd_line (ops := l.toArray) hl (by simp; omega) ht n 0 (by omega)
  have e0 : firstK l.toArray 0 = Array.replicate l.toArray.size false := by
    apply Array.ext_getElem?
    intro j
    rw [firstK_get, Array.getElem?_replicate]
    simp
  rw [e0] at h1
  refine region_ord ((List.range' 0 n).map (fun i => (i, true)) ++ tl) S hm hsel h1 (by simp; omega) hQ hS ?_
  have h2 := wpOrd_of_line (l.take n) 0 a w.drew (fun j hj => by
    rw [hlen] at hj
    rw [Nat.zero_add, List.getElem?_toArray, List.getElem?_take_of_lt hj]) hg h
  rw [hlen] at h2
  exact h2

end
end Go.Proofs.Ytopcljikkdlffaa
