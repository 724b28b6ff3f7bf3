/- A rule for a very long statement whose order of evaluation Go leaves open, with effects in it, and with a check that is cheap. No statement of the seat is proved here. -/
import Derived.Test.YtopcljikkdlffaaGreatX01
namespace Go.Proofs.YtopcljikkdlffaaGreat
open Go

section
variable {P : Program} {ops : Array Oper} {Q : Exit → Act → World → Prop} {S : World → Prop}

/-- Operation j waits straight for every other one. -/
def allB (ops : Array Oper) (j : Nat) (o : Oper) : Bool := (List.range ops.size).all fun k => k == j || o.after.any (fun e => Region.binds .any e && e.on == k)

/-- Operation j lays slot D + j, and what it reads of such slots it waits for. -/
def ownB (ops : Array Oper) (D j : Nat) (o : Oper) : Bool := o.dst == some (D + j) && (o.looksAt ops).all (fun t => decide (t < D) || o.after.any (fun e => Region.binds .any e && D + e.on == t))

/-- What operation j waits for has a smaller rank; it waits for one of at least the rank of each effect ahead of it. -/
def rankB (ops : Array Oper) (rk : Nat → Nat) (imp : List Nat) (j : Nat) (o : Oper) : Bool :=
  o.after.all (fun e => !Region.binds .any e || (decide (e.on < ops.size) && decide (rk e.on < rk j))) &&
  imp.all (fun i => !decide (rk i < rk j) || o.after.any (fun e => Region.binds .any e && decide (rk i ≤ rk e.on)))

def chainB (ops : Array Oper) (rk : Nat → Nat) (ord imp : List Nat) (D : Nat) : Bool :=
  ord.length == ops.size && ((List.range ops.size).all fun t => match ord[t]? with
    | some i => decide (i < ops.size) && rk i == t
    | none => false) &&
  (List.range ops.size).all fun j => ord[rk j]? == some j && (match ops[j]? with
    | some o => rankB ops rk imp j o && (allB ops j o || ownB ops D j o)
    | none => false)

/-- Those of a rank below t are listed. -/
def below (ops : Array Oper) (rk : Nat → Nat) (t : Nat) : Array Bool := ((List.range ops.size).map fun j => decide (rk j < t)).toArray

theorem below_get {rk : Nat → Nat} (t j : Nat) : (below ops rk t)[j]? = if j < ops.size then some (decide (rk j < t)) else none := by
  unfold below
  rw [List.getElem?_toArray, List.getElem?_map]
  by_cases h : j < ops.size
  · rw [List.getElem?_range h, if_pos h]; rfl
  · rw [List.getElem?_eq_none (by simp; omega), if_neg h]; rfl

theorem below_getD {rk : Nat → Nat} {t j : Nat} {b : Bool} (h : j < ops.size) : (below ops rk t).getD j b = decide (rk j < t) := by
  rw [Array.getD_eq_getD_getElem?, below_get, if_pos h]; rfl

theorem one_of {α : Type} {l : List α} {i : α} (hn : l.Nodup) (hi : i ∈ l) (hj : ∀ j ∈ l, j = i) : l = [i] := by
  cases l with
  | nil => cases hi
  | cons a r =>
    have ha := hj a (by simp)
    subst ha
    cases r with
    | nil => rfl
    | cons b r =>
      have hb := hj b (by simp)
      subst hb
      simp at hn

structure Chain (ops : Array Oper) (rk : Nat → Nat) (ord imp : List Nat) (D : Nat) : Prop where
  len : ord.length = ops.size
  pos : ∀ t, t < ops.size → ∃ i, ord[t]? = some i ∧ i < ops.size ∧ rk i = t
  inv : ∀ j, j < ops.size → ord[rk j]? = some j
  rank : ∀ j o, ops[j]? = some o → rankB ops rk imp j o = true
  own : ∀ j o, ops[j]? = some o → allB ops j o = true ∨ ownB ops D j o = true

theorem chain_of {rk : Nat → Nat} {ord imp : List Nat} {D : Nat} (h : chainB ops rk ord imp D = true) : Chain ops rk ord imp D := by
  unfold chainB at h
  simp only [Bool.and_eq_true, beq_iff_eq, List.all_eq_true, List.mem_range] at h
  obtain ⟨⟨h1, h2⟩, h3⟩ := h
  refine ⟨h1, fun t ht => ?_, fun j hj => (h3 j hj).1, fun j o ho => ?_, fun j o ho => ?_⟩
  · have h := h2 t ht
    cases hi : ord[t]? with
    | none => rw [hi] at h; cases h
    | some i =>
      rw [hi] at h
      simp only [Bool.and_eq_true, decide_eq_true_eq, beq_iff_eq] at h
      exact ⟨i, rfl, h.1, h.2⟩
  · have h := (h3 j (Array.getElem?_eq_some_iff.1 ho).1).2
    rw [ho] at h
    simp only [Bool.and_eq_true] at h
    exact h.1
  · have h := (h3 j (Array.getElem?_eq_some_iff.1 ho).1).2
    rw [ho] at h
    simp only [Bool.and_eq_true, Bool.or_eq_true] at h
    exact h.2

section
variable {rk : Nat → Nat} {ord imp : List Nat} {D : Nat}

theorem Chain.inj (h : Chain ops rk ord imp D) {i j : Nat} (hi : i < ops.size) (hj : j < ops.size) (e : rk i = rk j) : i = j := by
  have h1 := h.inv i hi
  have h2 := h.inv j hj
  rw [e, h2] at h1
  exact (Option.some.inj h1).symm

theorem Chain.set (h : Chain ops rk ord imp D) {i t : Nat} (hi : i < ops.size) (hr : rk i = t) : (below ops rk t).setIfInBounds i true = below ops rk (t + 1) := by
  apply Array.ext_getElem?
  intro j
  rw [Array.getElem?_setIfInBounds, below_get, below_get]
  have hs : (below ops rk t).size = ops.size := by simp [below]
  rw [hs]
  by_cases hij : i = j
  · subst hij
    simp [hi, hr]
  · simp only [hij, if_false]
    by_cases hj : j < ops.size
    · rw [if_pos hj, if_pos hj]
      have : decide (rk j < t) = decide (rk j < t + 1) := by
        rw [decide_eq_decide]
        have : rk j ≠ t := fun e => hij (h.inj hi hj (hr.trans e.symm))
        omega
      rw [this]
    · rw [if_neg hj, if_neg hj]

theorem Chain.edge (h : Chain ops rk ord imp D) {j : Nat} {o : Oper} (ho : ops[j]? = some o) {e : Edge} (he : e ∈ o.after) (hb : Region.binds .any e = true) : e.on < ops.size ∧ rk e.on < rk j := by
  have h1 := h.rank j o ho
  unfold rankB at h1
  simp only [Bool.and_eq_true] at h1
  have h2 := Array.all_eq_true_iff_forall_mem.1 h1.1 e he
  simpa [hb] using h2

theorem Chain.ready (h : Chain ops rk ord imp D) {i t : Nat} (hi : i < ops.size) (hr : rk i = t) : i ∈ Region.ready .any ops (below ops rk t) := by
  refine mem_ready.2 ⟨?_, _, Array.getElem?_eq_getElem hi, fun e he hb => ?_⟩
  · rw [below_getD hi]; simp [hr]
  · obtain ⟨h1, h2⟩ := h.edge (Array.getElem?_eq_getElem hi) he hb
    rw [below_getD h1]
    simp; omega

theorem Chain.free (h : Chain ops rk ord imp D) {i t : Nat} (hi : i < ops.size) (hr : rk i = t) : Region.free .any ops (below ops rk t) i = true := by
  have hoi : ops[i]? = some ops[i] := Array.getElem?_eq_getElem hi
  unfold Region.free
  rw [hoi]
  simp only [List.all_eq_true, List.mem_range]
  intro j hj
  have hoj : ops[j]? = some ops[j] := Array.getElem?_eq_getElem hj
  by_cases hji : j = i
  · simp [hji]
  · by_cases hlt : rk j < t
    · have : (below ops rk t).getD j true = true := by rw [below_getD hj]; simpa using hlt
      simp [this]
    · have hgt : t < rk j := by
        have : rk j ≠ t := fun e => hji (h.inj hj hi (e.trans hr.symm))
        omega
      rw [hoj]
      simp only [Bool.or_eq_true]
      right
      by_cases hw : ops[j].after.any (fun e => Region.binds .any e && e.on == i) = true
      · exact .inl hw
      · right
        have hjo : ownB ops D j ops[j] = true := by
          rcases h.own j _ hoj with h1 | h1
          · exfalso
            unfold allB at h1
            rw [List.all_eq_true] at h1
            have h2 := h1 i (List.mem_range.2 hi)
            simp only [Bool.or_eq_true, beq_iff_eq] at h2
            rcases h2 with h2 | h2
            · exact hji h2.symm
            · exact hw h2
          · exact h1
        have noEdge : ∀ e ∈ ops[i].after, Region.binds .any e = true → e.on ≠ j := fun e he hb heq => by
          have := (h.edge hoi he hb).2
          rw [heq] at this
          omega
        have hio : ownB ops D i ops[i] = true := by
          rcases h.own i _ hoi with h1 | h1
          · exfalso
            unfold allB at h1
            rw [List.all_eq_true] at h1
            have h2 := h1 j (List.mem_range.2 hj)
            simp only [Bool.or_eq_true, beq_iff_eq, Array.any_eq_true'] at h2
            rcases h2 with h2 | ⟨e, he, h2⟩
            · exact hji h2
            · simp only [Bool.and_eq_true, beq_iff_eq] at h2
              exact noEdge e he h2.1 h2.2
          · exact h1
        unfold ownB at hjo hio
        simp only [Bool.and_eq_true, beq_iff_eq, List.all_eq_true, Bool.or_eq_true, decide_eq_true_eq] at hjo hio
        have h1 : (D + i) ∉ ops[j].looksAt ops := by
          intro hm
          rcases hjo.2 _ hm with h | h
          · have h' : (D + i : Nat) < D := h
            omega
          · refine hw ?_
            rw [Array.any_eq_true'] at h ⊢
            obtain ⟨e, he, h3⟩ := h
            refine ⟨e, he, ?_⟩
            simp only [Bool.and_eq_true, beq_iff_eq] at h3 ⊢
            have h4 : (D + e.on : Nat) = D + i := h3.2
            exact ⟨h3.1, by omega⟩
        have h2 : (D + j) ∉ ops[i].looksAt ops := by
          intro hm
          rcases hio.2 _ hm with h | h
          · have h' : (D + j : Nat) < D := h
            omega
          · rw [Array.any_eq_true'] at h
            obtain ⟨e, he, h3⟩ := h
            simp only [Bool.and_eq_true, beq_iff_eq] at h3
            have h4 : (D + e.on : Nat) = D + j := h3.2
            exact noEdge e he h3.1 (by omega)
        unfold Oper.apart
        rw [hjo.1, hio.1]
        simp only [Bool.and_eq_true, Bool.not_eq_true', bne_iff_ne, ne_eq, Option.some.injEq]
        refine ⟨⟨?_, by omega⟩, ?_⟩
        · rw [← Bool.not_eq_true, List.contains_iff_mem]; exact h1
        · rw [← Bool.not_eq_true, List.contains_iff_mem]; exact h2

theorem Chain.alone (h : Chain ops rk ord imp D) {i t : Nat} (hi : i < ops.size) (hr : rk i = t) (him : i ∈ imp) : Region.ready .any ops (below ops rk t) = [i] := by
  refine one_of (List.Pairwise.filter _ List.nodup_range) (h.ready hi hr) fun j hj => ?_
  obtain ⟨h0, o, ho, hall⟩ := mem_ready.1 hj
  have hjl : j < ops.size := (Array.getElem?_eq_some_iff.1 ho).1
  rw [below_getD hjl] at h0
  simp only [decide_eq_false_iff_not] at h0
  by_cases e : rk j = t
  · exact h.inj hjl hi (e.trans hr.symm)
  · exfalso
    have h1 := h.rank j o ho
    unfold rankB at h1
    simp only [Bool.and_eq_true, List.all_eq_true] at h1
    have h2 := h1.2 i him
    simp only [Bool.or_eq_true, Bool.not_eq_true', decide_eq_false_iff_not] at h2
    rcases h2 with h2 | h2
    · omega
    · rw [Array.any_eq_true'] at h2
      obtain ⟨e, he, h3⟩ := h2
      simp only [Bool.and_eq_true, decide_eq_true_eq] at h3
      have h4 := hall e he h3.1
      have h5 := h.edge ho he h3.1
      rw [below_getD h5.1] at h4
      simp only [decide_eq_true_eq] at h4
      omega

theorem Chain.notLast (h : Chain ops rk ord imp D) {i t : Nat} (hi : i < ops.size) (hr : rk i = t) (ht : t + 1 < ops.size) : lastB ops i = false := by
  cases hl : lastB ops i with
  | false => rfl
  | true =>
    exfalso
    obtain ⟨k, hk, hkl, hkr⟩ := h.pos (t + 1) ht
    have wait : ∀ {a b : Nat}, Region.waitsFor .any ops a b = true → rk b < rk a := fun {a b} hw => by
      obtain ⟨o, ho, e, he, hb, heq⟩ := Region.waitsFor_spec hw
      have := (h.edge ho he hb).2
      rw [heq] at this
      exact this
    rcases lastB_spec hl hkl (fun e => by rw [e] at hkr; omega) with hw | ⟨m, h1, h2⟩
    · have := wait hw; omega
    · have := wait h1; have := wait h2; omega

theorem Chain.ok (h : Chain ops rk ord imp D) : ∀ (m t : Nat), t + m = ops.size → okOrd ops ((ord.drop t).map (fun i => (i, !imp.contains i))) (below ops rk t) = true := by
  intro m
  induction m with
  | zero =>
    intro t ht
    have : ord.drop t = [] := List.drop_eq_nil_of_le (by have := h.len; omega)
    rw [this]
    simp only [List.map_nil, okOrd, beq_iff_eq]
    refine List.eq_nil_iff_forall_not_mem.2 fun j hj => ?_
    obtain ⟨h0, o, ho, _⟩ := mem_ready.1 hj
    have hjl : j < ops.size := (Array.getElem?_eq_some_iff.1 ho).1
    rw [below_getD hjl] at h0
    simp only [decide_eq_false_iff_not] at h0
    have h1 := (List.getElem?_eq_some_iff.1 (h.inv j hjl)).1
    have := h.len
    omega
  | succ m ih =>
    intro t ht
    obtain ⟨i, hoi, hi, hr⟩ := h.pos t (by omega)
    have hd : ord.drop t = i :: ord.drop (t + 1) := by
      have hlt := (List.getElem?_eq_some_iff.1 hoi)
      obtain ⟨hlt, he⟩ := hlt
      rw [List.drop_eq_getElem_cons hlt, he]
    have ih' := ih (t + 1) (by omega)
    rw [hd, List.map_cons]
    cases him : imp.contains i with
    | false =>
      simp only [Bool.not_false, okOrd, Bool.and_eq_true]
      refine ⟨⟨?_, h.free hi hr⟩, ?_⟩
      · rw [List.contains_iff_mem]; exact h.ready hi hr
      · rw [h.set hi hr]; exact ih'
    | true =>
      simp only [Bool.not_true, okOrd, Bool.and_eq_true, beq_iff_eq, Bool.or_eq_true, Bool.not_eq_true', List.isEmpty_iff]
      refine ⟨⟨h.alone hi hr (by rw [List.contains_iff_mem] at him; exact him), ?_⟩, ?_⟩
      · by_cases hl : t + 1 < ops.size
        · exact .inl (h.notLast hi hr hl)
        · right
          have : ord.drop (t + 1) = [] := List.drop_eq_nil_of_le (by have := h.len; omega)
          rw [this]; rfl
      · rw [h.set hi hr]; exact ih'

end

/-- Operations one behind the other, true: it reads or reckons; and then the rest of an order. -/
def wpRun (P : Program) (ops : Array Oper) (Q : Exit → Act → World → Prop) (S : World → Prop) (tl : List (Nat × Bool)) : Nat → List Bool → List Oper → Act → World → Prop
  | i, true :: fs, o :: l, a, w => ∃ v, YieldsIf P ops S o v a ∧ wpRun P ops Q S tl (i + 1) fs l (a.put o.dst v) w
  | i, false :: fs, o :: l, a, w => Region.wanted o (yielded ops a.tmps) = true ∧ o.wp P a w (fun a' w' => (lastB ops i = false → S w') ∧ wpRun P ops Q S tl (i + 1) fs l a' w') Q
  | _, _, _, a, w => wpOrd P ops Q S tl a w

theorem wpOrd_of_run {tl : List (Nat × Bool)} : ∀ (l : List Oper) (fs : List Bool) (i : Nat) (a : Act) (w : World), fs.length = l.length → (∀ j, j < l.length → ops[i + j]? = l[j]?) → wpRun P ops Q S tl i fs l a w →
    wpOrd P ops Q S ((List.range' i l.length).zip fs ++ tl) a w
  | [], [], _, _, _, _, _, h => h
  | [], _ :: _, _, _, _, hl, _, _ => by simp at hl
  | _ :: _, [], _, _, _, hl, _, _ => by simp at hl
  | o :: l, true :: fs, i, a, w, hl, ho, ⟨v, hy, h⟩ => by
    rw [List.length_cons, List.range'_succ, List.zip_cons_cons, List.cons_append]
    refine ⟨o, ?_, v, hy, wpOrd_of_run l fs (i + 1) _ w (by simpa using hl) (fun j hj => ?_) h⟩
    · have := ho 0 (by simp)
      simpa using this
    · have := ho (j + 1) (by simp; omega)
      rw [show i + 1 + j = i + (j + 1) by omega, this]
      simp
  | o :: l, false :: fs, i, a, w, hl, ho, ⟨hw, h⟩ => by
    rw [List.length_cons, List.range'_succ, List.zip_cons_cons, List.cons_append]
    have h0 := ho 0 (by simp)
    simp only [Nat.add_zero, List.getElem?_cons_zero] at h0
    unfold wpOrd wpOp
    simp only [h0, hw, if_true]
    refine .inl (Oper.wp_mono (fun a' w' h' => ⟨h'.1, wpOrd_of_run l fs (i + 1) a' w' (by simpa using hl) (fun j hj => ?_) h'.2⟩) h)
    have := ho (j + 1) (by simp; omega)
    rw [show i + 1 + j = i + (j + 1) by omega, this]
    simp

theorem run_pure {tl : List (Nat × Bool)} {i : Nat} {fs : List Bool} {o : Oper} {l : List Oper} {a : Act} {w : World} (hw : Region.wanted o (yielded ops a.tmps) = true)
    (h : ∃ v, (∀ w', S w' → (execOp a.eval o).run P w' = .ok (.value v) w') ∧ wpRun P ops Q S tl (i + 1) fs l (a.put o.dst v) w) : wpRun P ops Q S tl i (true :: fs) (o :: l) a w := by
  obtain ⟨v, h1, h2⟩ := h
  exact ⟨v, .inl ⟨hw, h1⟩, h2⟩

theorem run_run {tl : List (Nat × Bool)} {i : Nat} {fs : List Bool} {o : Oper} {l : List Oper} {a : Act} {w : World} (hw : Region.wanted o (yielded ops a.tmps) = true)
    (h : ∀ K : Act → World → Prop, (∀ a w, S w → wpRun P ops Q S tl (i + 1) fs l a w → K a w) → o.wp P a w K Q) : wpRun P ops Q S tl i (false :: fs) (o :: l) a w :=
  ⟨hw, h _ fun _ _ hS hr => ⟨fun _ => hS, hr⟩⟩

theorem wpOrd_pureG {i : Nat} {o : Oper} {rest : List (Nat × Bool)} {a : Act} {w : World} (ho : ops[i]? = some o) (hw : Region.wanted o (yielded ops a.tmps) = true)
    (h : ∃ v, (∀ w', S w' → (execOp a.eval o).run P w' = .ok (.value v) w') ∧ wpOrd P ops Q S rest (a.put o.dst v) w) : wpOrd P ops Q S ((i, true) :: rest) a w := by
  obtain ⟨v, h1, h2⟩ := h
  exact ⟨o, ho, v, .inl ⟨hw, h1⟩, h2⟩

theorem wpOrd_runG {i : Nat} {o : Oper} {rest : List (Nat × Bool)} {a : Act} {w : World} (ho : ops[i]? = some o) (hw : Region.wanted o (yielded ops a.tmps) = true)
    (h : ∀ K : Act → World → Prop, (∀ a w, S w → wpOrd P ops Q S rest a w → K a w) → o.wp P a w K Q) : wpOrd P ops Q S ((i, false) :: rest) a w := by
  unfold wpOrd wpOp
  simp only [ho, hw, if_true]
  exact .inl (h _ fun a w hS hr => ⟨fun _ => hS, hr⟩)

/-- A very long region that draws its order. -/
theorem region_chain {id : Nat} {a : Act} {w : World} {l : List Oper} (rk : Nat → Nat) (ord imp : List Nat) (D : Nat) (L : List (Nat × Bool)) (S : World → Prop) (hm : P.follows .mixedOrders = true) (hsel : Region.noSelect l.toArray = true)
    (hok : chainB l.toArray rk ord imp D = true) (hQ : ∀ c a (d : Option Tmp) v w, Q (.panic c) (a.put d v) w → Q (.panic c) a w)
    (hL : ord.map (fun i => (i, !imp.contains i)) = L) (hS : S w.drew) (h : wpOrd P l.toArray Q S L a w.drew) : (Code.region id l.toArray true).wp P Q a w := by
  subst hL
  have hc := chain_of hok
  have h0 := hc.ok l.toArray.size 0 (by omega)
  rw [List.drop_zero] at h0
  have e0 : below l.toArray rk 0 = Array.replicate l.toArray.size false := by
    apply Array.ext_getElem?
    intro j
    rw [below_get, Array.getElem?_replicate]
    simp
  rw [e0] at h0
  exact region_ord _ S hm hsel h0 (by rw [List.length_map, hc.len]; simp) hQ hS h

/-- The same, with what lies ahead of the effects in one run, a few operations in another order, and a second run. -/
theorem region_runs {id : Nat} {a : Act} {w : World} {l : List Oper} (rk : Nat → Nat) (ord imp : List Nat) (D n1 : Nat) (f1 : List Bool) (tl : List (Nat × Bool)) (S : World → Prop) (hm : P.follows .mixedOrders = true) (hsel : Region.noSelect l.toArray = true)
    (hok : chainB l.toArray rk ord imp D = true) (hQ : ∀ c a (d : Option Tmp) v w, Q (.panic c) (a.put d v) w → Q (.panic c) a w)
    (hn : n1 ≤ l.length) (hf : f1.length = n1) (hL : ord.map (fun i => (i, !imp.contains i)) = (List.range' 0 n1).zip f1 ++ tl) (hS : S w.drew) (h : wpRun P l.toArray Q S tl 0 f1 (l.take n1) a w.drew) :
    (Code.region id l.toArray true).wp P Q a w := by
  have hlen : (l.take n1).length = n1 := by rw [List.length_take]; omega
  refine region_chain rk ord imp D _ S hm hsel hok hQ hL hS ?_
  have h2 := wpOrd_of_run (l.take n1) f1 0 a w.drew (by omega) (fun j hj => by
    rw [hlen] at hj
    rw [Nat.zero_add, List.getElem?_toArray, List.getElem?_take_of_lt hj]) h
  rw [hlen] at h2
  exact h2

theorem wpOrd_drop {a : Act} {w : World} {l : List Oper} (n m : Nat) (f2 : List Bool) (hm : n + m = l.length) (hf : f2.length = m) (h : wpRun P l.toArray Q S [] n f2 (l.drop n) a w) : wpOrd P l.toArray Q S ((List.range' n m).zip f2) a w := by
  have hlen : (l.drop n).length = m := by rw [List.length_drop]; omega
  have h2 := wpOrd_of_run (l.drop n) f2 n a w (by omega) (fun j hj => by
    rw [List.getElem?_toArray, List.getElem?_drop]) h
  rw [hlen, List.append_nil] at h2
  exact h2

end
end Go.Proofs.YtopcljikkdlffaaGreat
