/- What a ClientHello by value shows, whoever made it. A rule for a very long statement whose order of evaluation Go leaves open, with effects in it, and with a check that is cheap. A ClientHello that was read: its numbers fit, its identities are short. No program and no memory stand here. No statement of the seat is proved here. -/
import Derived.Test.YtopcljikkdlffaaX18
import Derived.Test.YtopcljikkdlffaaX37
import Derived.Test.YtopcljikkdlffaaX38
import Derived.Test.YtopcljikkdlffaaX01
import Derived.Test.YtopcljikkdlffaaX15
namespace Go.Proofs.Ytopcljikkdlffaa
open Go.RowKit

/-- What a cell of a struct by value shows. -/
inductive SE
  | any
  | val (v : Value)
  | src (l : List UInt8)
  | lst (L : List (List UInt8))
  | row (e : TypeId) (us : List Value)

def SERel (w : World) (base : Nat) : SE → Value → Prop
  | .any, _ => True
  | .val u, v => v = u
  | .src l, v => SrcB w base v l
  | .lst L, v => SrcL w base v L
  | .row e us, v => RowS w base e v us

theorem SERel.keep {w w' : World} {base base' : Nat} {s : SE} {v : Value} (h : SERel w base s v) (hb : base ≤ base') (hk : ∀ k, k < base → w'.heap[k]? = w.heap[k]?) : SERel w' base' s v := by
  cases s with
  | any => exact h
  | val u => exact h
  | src l => exact SrcB.keep h hb hk
  | lst L => exact SrcL.keep h hb hk
  | row e us => exact RowS.keep h hb hk

/-- The cells of a ClientHello by value; the list of its extensions is left out. -/
def seV (f : CH) : List SE := [.val (.int .u16 (f.vers : Nat)), .src f.random, .src f.session, .row 35 (f.suites.map fun n => Value.int .u16 (n : Nat)), .src f.comps, .val (.string ⟨f.name.toArray⟩), .val (.bool f.ocsp), .row 35 (f.curves.map fun n => Value.int .u16 (n : Nat)), .src f.points, .val (.bool f.ticket), .src f.tickets, .row 35 (f.sigs.map fun n => Value.int .u16 (n : Nat)), .row 35 (f.sigsC.map fun n => Value.int .u16 (n : Nat)), .val (.bool f.srs), .src f.sr, .val (.bool f.ems), .row 9 (f.alpn.map fun s => Value.string ⟨s.toArray⟩), .val (.bool f.scts), .row 35 (f.vers13.map fun n => Value.int .u16 (n : Nat)), .src f.cookie, .row 35 ((f.shares.map (·.1)).map fun n => Value.int .u16 (n : Nat)), .lst (f.shares.map (·.2)), .val (.bool f.early), .src f.modes, .lst (f.psks.map (·.1)), .row 143 ((f.psks.map (·.2)).map fun n => Value.int .u32 (n : Nat)), .lst f.binders, .val (.bool f.quic.isSome), .src (f.quic.getD []), .src f.ech, .any]

/-- The cells D show the fields f. -/
structure ChS (w : World) (base : Nat) (f : CH) (D : Array Value) : Prop where
  size : D.size = 31
  one : D.all (·.oneCell') = true
  rel : ∀ (i : Nat) (s : SE), (seV f)[i]? = some s → ∃ v, D[i]? = some v ∧ SERel w base s v

theorem ChS.keep {w w' : World} {base base' : Nat} {f : CH} {D : Array Value} (h : ChS w base f D) (hb : base ≤ base') (hk : ∀ k, k < base → w'.heap[k]? = w.heap[k]?) : ChS w' base' f D :=
  ⟨h.size, h.one, fun i s hi => by
    obtain ⟨v, hv, hr⟩ := h.rel i s hi
    exact ⟨v, hv, hr.keep hb hk⟩⟩

theorem ChS.exts {w : World} {base : Nat} {f : CH} {E : List Nat} {D : Array Value} (h : ChS w base { f with exts := E } D) : ChS w base f D := ⟨h.size, h.one, h.rel⟩

section
variable {w : World} {base B : Nat} {C : Array Value} {g : Nat} {T : TypeId} {fr : Nat × Nat} {v : Value}

theorem se_vn {l : List UInt8} (h : FRel w base C g (.vn l) v) (hg : w.heap[g]? = some (.cells C T fr)) (hB : w.heap.size ≤ B) : SrcB w B v l :=
  (vn_src h hg).keep hB (fun _ _ => rfl)

theorem se_row {e n : Nat} {R : Value → List Value → Prop} {us0 : List Value} (h : FRel w base C g (.own e 1 n R) v) (hB : w.heap.size ≤ B) (hR : ∀ us, R v us → us = us0) : RowS w B e v us0 := by
  obtain ⟨us, hown, hr⟩ := h
  rw [← hR us hr]
  exact rowS_of hown hB

theorem se_lst {L : List (List UInt8)} {R : Value → List Value → Prop} (h : FRel w base C g (.own 22 1 L.length R) v) (hg : w.heap[g]? = some (.cells C T fr)) (hB : w.heap.size ≤ B)
    (hR : ∀ us, R v us → ∀ (j : Nat) (s : List UInt8), L[j]? = some s → ∃ u, us[j]? = some u ∧ VN C g u s) : SrcL w B v L := by
  obtain ⟨us, hown, hr⟩ := h
  rcases hown.2 with ⟨rfl, hn⟩ | ⟨p, cap, cur, rfl, hbp, hh, hnc, _, hcs, htake⟩
  · exact .inl ⟨rfl, List.length_eq_zero_iff.1 hn⟩
  · refine .inr ⟨p, cap, cur, rfl, by have := lt_of_heap hh; omega, hh, fun j s hj => ?_⟩
    obtain ⟨u, hu, hv⟩ := hR us hr j s hj
    refine ⟨u, ?_, (vn_src hv hg).keep hB (fun _ _ => rfl)⟩
    rw [← htake, List.getElem?_take] at hu
    split at hu
    · rw [← Array.getElem?_toList]; exact hu
    · cases hu

theorem se_quic {q : Option (List UInt8)} (h : FRel w base C g (.own 5 1 (q.getD []).length (ShowQ q)) v) (_ : w.heap[g]? = some (.cells C T fr)) (hB : w.heap.size ≤ B) : SrcB w B v (q.getD []) := by
  obtain ⟨us, hown, hr, _⟩ := h
  rw [hr] at hown
  exact src_own hown hB

end

theorem chs_of_uv {w : World} {base B : Nat} {C : Array Value} {g : Nat} {T : TypeId} {fr : Nat × Nat} {f : CH} {D : Array Value} (hs : D.size = 31) (h1 : D.all (·.oneCell') = true) (hg : w.heap[g]? = some (.cells C T fr)) (hB : w.heap.size ≤ B)
    (hrel : ∀ (i : Nat) (fd : FD), (uV C g f)[i]? = some fd → ∃ x, D[i]? = some x ∧ FRel w base C g fd x) : ChS w B f D := by
  refine ⟨hs, h1, fun i s hi => ?_⟩
  match i, hi with
  | 0, hi => cases hi; obtain ⟨v, hd, hr⟩ := hrel 0 _ rfl; exact ⟨_, hd, hr⟩
  | 1, hi => cases hi; obtain ⟨v, hd, hr⟩ := hrel 1 _ rfl; exact ⟨_, hd, se_vn hr hg hB⟩
  | 2, hi => cases hi; obtain ⟨v, hd, hr⟩ := hrel 2 _ rfl; exact ⟨_, hd, se_vn hr hg hB⟩
  | 3, hi => cases hi; obtain ⟨v, hd, hr⟩ := hrel 3 _ rfl; exact ⟨_, hd, se_row hr hB fun us h => h⟩
  | 4, hi => cases hi; obtain ⟨v, hd, hr⟩ := hrel 4 _ rfl; exact ⟨_, hd, se_vn hr hg hB⟩
  | 5, hi => cases hi; obtain ⟨v, hd, hr⟩ := hrel 5 _ rfl; exact ⟨_, hd, hr⟩
  | 6, hi => cases hi; obtain ⟨v, hd, hr⟩ := hrel 6 _ rfl; exact ⟨_, hd, hr⟩
  | 7, hi => cases hi; obtain ⟨v, hd, hr⟩ := hrel 7 _ rfl; exact ⟨_, hd, se_row hr hB fun us h => h⟩
  | 8, hi => cases hi; obtain ⟨v, hd, hr⟩ := hrel 8 _ rfl; exact ⟨_, hd, se_vn hr hg hB⟩
  | 9, hi => cases hi; obtain ⟨v, hd, hr⟩ := hrel 9 _ rfl; exact ⟨_, hd, hr⟩
  | 10, hi => cases hi; obtain ⟨v, hd, hr⟩ := hrel 10 _ rfl; exact ⟨_, hd, se_vn hr hg hB⟩
  | 11, hi => cases hi; obtain ⟨v, hd, hr⟩ := hrel 11 _ rfl; exact ⟨_, hd, se_row hr hB fun us h => h⟩
  | 12, hi => cases hi; obtain ⟨v, hd, hr⟩ := hrel 12 _ rfl; exact ⟨_, hd, se_row hr hB fun us h => h⟩
  | 13, hi => cases hi; obtain ⟨v, hd, hr⟩ := hrel 13 _ rfl; exact ⟨_, hd, hr⟩
  | 14, hi => cases hi; obtain ⟨v, hd, hr⟩ := hrel 14 _ rfl; exact ⟨_, hd, se_vn hr hg hB⟩
  | 15, hi => cases hi; obtain ⟨v, hd, hr⟩ := hrel 15 _ rfl; exact ⟨_, hd, hr⟩
  | 16, hi => cases hi; obtain ⟨v, hd, hr⟩ := hrel 16 _ rfl; exact ⟨_, hd, se_row hr hB fun us h => h⟩
  | 17, hi => cases hi; obtain ⟨v, hd, hr⟩ := hrel 17 _ rfl; exact ⟨_, hd, hr⟩
  | 18, hi => cases hi; obtain ⟨v, hd, hr⟩ := hrel 18 _ rfl; exact ⟨_, hd, se_row hr hB fun us h => h⟩
  | 19, hi => cases hi; obtain ⟨v, hd, hr⟩ := hrel 19 _ rfl; exact ⟨_, hd, se_vn hr hg hB⟩
  | 20, hi => cases hi; obtain ⟨v, hd, hr⟩ := hrel 20 _ rfl; exact ⟨_, hd, se_row hr hB fun us h => h⟩
  | 21, hi => cases hi; obtain ⟨v, hd, hr⟩ := hrel 21 _ rfl; exact ⟨_, hd, se_lst hr hg hB fun us h => h.2⟩
  | 22, hi => cases hi; obtain ⟨v, hd, hr⟩ := hrel 22 _ rfl; exact ⟨_, hd, hr⟩
  | 23, hi => cases hi; obtain ⟨v, hd, hr⟩ := hrel 23 _ rfl; exact ⟨_, hd, se_vn hr hg hB⟩
  | 24, hi => cases hi; obtain ⟨v, hd, hr⟩ := hrel 24 _ rfl; exact ⟨_, hd, se_lst hr hg hB fun us h => h.2⟩
  | 25, hi => cases hi; obtain ⟨v, hd, hr⟩ := hrel 25 _ rfl; exact ⟨_, hd, se_row hr hB fun us h => h⟩
  | 26, hi => cases hi; obtain ⟨v, hd, hr⟩ := hrel 26 _ rfl; exact ⟨_, hd, se_lst hr hg hB fun us h => h.2⟩
  | 27, hi => cases hi; obtain ⟨v, hd, hr⟩ := hrel 27 _ rfl; exact ⟨_, hd, hr⟩
  | 28, hi => cases hi; obtain ⟨v, hd, hr⟩ := hrel 28 _ rfl; exact ⟨_, hd, se_quic hr hg hB⟩
  | 29, hi => cases hi; obtain ⟨v, hd, hr⟩ := hrel 29 _ rfl; exact ⟨_, hd, se_vn hr hg hB⟩
  | 30, hi => cases hi; obtain ⟨v, hd, hr⟩ := hrel 30 _ rfl; exact ⟨_, hd, trivial⟩
  | _ + 31, hi => simp [seV] at hi

theorem chs_of_rv {w : World} {base B : Nat} {C : Array Value} {g : Nat} {f : CH} {D : Array Value} (h : CHV w base C g f D) (hB : w.heap.size ≤ B) : ChS w B f D := by
  obtain ⟨T, fr, hg⟩ := h.data
  have hrel := h.rel
  refine ⟨h.size, h.one, fun i s hi => ?_⟩
  match i, hi with
  | 0, hi => cases hi; obtain ⟨v, hd, hr⟩ := hrel 0 _ rfl; exact ⟨_, hd, hr⟩
  | 1, hi => cases hi; obtain ⟨v, hd, hr⟩ := hrel 1 _ rfl; exact ⟨_, hd, se_vn hr hg hB⟩
  | 2, hi => cases hi; obtain ⟨v, hd, hr⟩ := hrel 2 _ rfl; exact ⟨_, hd, se_vn hr hg hB⟩
  | 3, hi => cases hi; obtain ⟨v, hd, hr⟩ := hrel 3 _ rfl; exact ⟨_, hd, se_row hr hB fun us h => h⟩
  | 4, hi => cases hi; obtain ⟨v, hd, hr⟩ := hrel 4 _ rfl; exact ⟨_, hd, se_vn hr hg hB⟩
  | 5, hi => cases hi; obtain ⟨v, hd, hr⟩ := hrel 5 _ rfl; exact ⟨_, hd, hr⟩
  | 6, hi => cases hi; obtain ⟨v, hd, hr⟩ := hrel 6 _ rfl; exact ⟨_, hd, hr⟩
  | 7, hi => cases hi; obtain ⟨v, hd, hr⟩ := hrel 7 _ rfl; exact ⟨_, hd, se_row hr hB fun us h => h⟩
  | 8, hi => cases hi; obtain ⟨v, hd, hr⟩ := hrel 8 _ rfl; exact ⟨_, hd, se_vn hr hg hB⟩
  | 9, hi => cases hi; obtain ⟨v, hd, hr⟩ := hrel 9 _ rfl; exact ⟨_, hd, hr⟩
  | 10, hi => cases hi; obtain ⟨v, hd, hr⟩ := hrel 10 _ rfl; exact ⟨_, hd, se_vn hr hg hB⟩
  | 11, hi => cases hi; obtain ⟨v, hd, hr⟩ := hrel 11 _ rfl; exact ⟨_, hd, se_row hr hB fun us h => h⟩
  | 12, hi => cases hi; obtain ⟨v, hd, hr⟩ := hrel 12 _ rfl; exact ⟨_, hd, se_row hr hB fun us h => h⟩
  | 13, hi => cases hi; obtain ⟨v, hd, hr⟩ := hrel 13 _ rfl; exact ⟨_, hd, hr⟩
  | 14, hi => cases hi; obtain ⟨v, hd, hr⟩ := hrel 14 _ rfl; exact ⟨_, hd, se_vn hr hg hB⟩
  | 15, hi => cases hi; obtain ⟨v, hd, hr⟩ := hrel 15 _ rfl; exact ⟨_, hd, hr⟩
  | 16, hi => cases hi; obtain ⟨v, hd, hr⟩ := hrel 16 _ rfl; exact ⟨_, hd, se_row hr hB fun us h => h⟩
  | 17, hi => cases hi; obtain ⟨v, hd, hr⟩ := hrel 17 _ rfl; exact ⟨_, hd, hr⟩
  | 18, hi => cases hi; obtain ⟨v, hd, hr⟩ := hrel 18 _ rfl; exact ⟨_, hd, se_row hr hB fun us h => h⟩
  | 19, hi => cases hi; obtain ⟨v, hd, hr⟩ := hrel 19 _ rfl; exact ⟨_, hd, se_vn hr hg hB⟩
  | 20, hi => cases hi; obtain ⟨v, hd, hr⟩ := hrel 20 _ rfl; exact ⟨_, hd, se_row hr hB fun us h => h⟩
  | 21, hi => cases hi; obtain ⟨v, hd, hr⟩ := hrel 21 _ rfl; exact ⟨_, hd, se_lst hr hg hB fun us h => h⟩
  | 22, hi => cases hi; obtain ⟨v, hd, hr⟩ := hrel 22 _ rfl; exact ⟨_, hd, hr⟩
  | 23, hi => cases hi; obtain ⟨v, hd, hr⟩ := hrel 23 _ rfl; exact ⟨_, hd, se_vn hr hg hB⟩
  | 24, hi => cases hi; obtain ⟨v, hd, hr⟩ := hrel 24 _ rfl; exact ⟨_, hd, se_lst hr hg hB fun us h => h⟩
  | 25, hi => cases hi; obtain ⟨v, hd, hr⟩ := hrel 25 _ rfl; exact ⟨_, hd, se_row hr hB fun us h => h⟩
  | 26, hi => cases hi; obtain ⟨v, hd, hr⟩ := hrel 26 _ rfl; exact ⟨_, hd, se_lst hr hg hB fun us h => h⟩
  | 27, hi => cases hi; obtain ⟨v, hd, hr⟩ := hrel 27 _ rfl; exact ⟨_, hd, hr⟩
  | 28, hi => cases hi; obtain ⟨v, hd, hr⟩ := hrel 28 _ rfl; exact ⟨_, hd, se_vn hr hg hB⟩
  | 29, hi => cases hi; obtain ⟨v, hd, hr⟩ := hrel 29 _ rfl; exact ⟨_, hd, se_vn hr hg hB⟩
  | 30, hi => cases hi; obtain ⟨v, hd, hr⟩ := hrel 30 _ rfl; exact ⟨_, hd, trivial⟩
  | _ + 31, hi => simp [seV] at hi

/-- What reading any bytes leaves, by value. -/
theorem UnGot.chs {w w' : World} {lo : Nat} {bs : List UInt8} {e : Ending} (h : UnGot w lo bs e w') : (chRead bs = none ∧ ∃ D : Array Value, e = .returned (.tuple #[.agg D, .bool false]) ∧ D.size = 31 ∧ D.all (·.oneCell') = true) ∨
    ∃ (f : CH) (D : Array Value), chRead bs = some f ∧ e = .returned (.tuple #[.agg D, .bool true]) ∧ ChS w' w'.heap.size f D := by
  rcases h.2 with h | ⟨f, D, base, C, g, hy, he, hs, h1, _, _, ⟨T, fr, hg⟩, hrel⟩
  · exact .inl h
  · exact .inr ⟨f, D, hy, he, chs_of_uv hs h1 hg (Nat.le_refl _) hrel⟩

end Go.Proofs.Ytopcljikkdlffaa
namespace Go.Proofs.Ytopcljikkdlffaa
open Go

section
variable {P : Program} {ops : Array Oper} {Q : Exit → Act → World → Prop} {S : World → Prop}

/-- Operation j waits straight for every other one. -/
def allB (ops : Array Oper) (j : Nat) (o : Oper) : Bool := (List.range ops.size).all fun k => k == j || o.after.any (fun e => Region.binds .any e && e.on == k)

/-- Operation j lays slot D + j, and what it reads of such slots it waits for. -/
def ownB (ops : Array Oper) (D j : Nat) (o : Oper) : Bool := o.dst == some (D + j) && (o.looksAt ops).all (fun t => decide (t < D) || o.after.any (fun e => Region.binds .any e && D + e.on == t))

/-- What operation j waits for has a smaller rank; it waits for one of at least the rank of each effect ahead of it. -/
def rankB (ops : Array Oper) (rk : Nat → Nat) (imp : List Nat) (j : Nat) (o : Oper) : Bool :=
  o.after.all (fun e => !Region.binds .any e || (decide (e.on < ops.size) && decide (rk e.on < rk j))) &&
  imp.all (fun i => !decide (rk i < rk j) || o.after.any (fun e => Region.binds .any e && decide (rk i ≤ rk e.on)))

def chainB (ops : Array Oper) (rk : Nat → Nat) (ord imp : List Nat) (D : Nat) : Bool :=
  ord.length == ops.size && ((List.range ops.size).all fun t => match ord[t]? with
    | some i => decide (i < ops.size) && rk i == t
    | none => false) &&
  (List.range ops.size).all fun j => ord[rk j]? == some j && (match ops[j]? with
    | some o => rankB ops rk imp j o && (allB ops j o || ownB ops D j o)
    | none => false)

/-- Those of a rank below t are listed. -/
def below (ops : Array Oper) (rk : Nat → Nat) (t : Nat) : Array Bool := ((List.range ops.size).map fun j => decide (rk j < t)).toArray

theorem below_get {rk : Nat → Nat} (t j : Nat) : (below ops rk t)[j]? = if j < ops.size then some (decide (rk j < t)) else none := by
  unfold below
  rw [List.getElem?_toArray, List.getElem?_map]
  by_cases h : j < ops.size
  · rw [List.getElem?_range h, if_pos h]; rfl
  · rw [List.getElem?_eq_none (by simp; omega), if_neg h]; rfl

theorem below_getD {rk : Nat → Nat} {t j : Nat} {b : Bool} (h : j < ops.size) : (below ops rk t).getD j b = decide (rk j < t) := by
  rw [Array.getD_eq_getD_getElem?, below_get, if_pos h]; rfl

theorem one_of {α : Type} {l : List α} {i : α} (hn : l.Nodup) (hi : i ∈ l) (hj : ∀ j ∈ l, j = i) : l = [i] := by
  cases l with
  | nil => cases hi
  | cons a r =>
    have ha := hj a (by simp)
    subst ha
    cases r with
    | nil => rfl
    | cons b r =>
      have hb := hj b (by simp)
      subst hb
      simp at hn

structure Chain (ops : Array Oper) (rk : Nat → Nat) (ord imp : List Nat) (D : Nat) : Prop where
  len : ord.length = ops.size
  pos : ∀ t, t < ops.size → ∃ i, ord[t]? = some i ∧ i < ops.size ∧ rk i = t
  inv : ∀ j, j < ops.size → ord[rk j]? = some j
  rank : ∀ j o, ops[j]? = some o → rankB ops rk imp j o = true
  own : ∀ j o, ops[j]? = some o → allB ops j o = true ∨ ownB ops D j o = true

theorem chain_of {rk : Nat → Nat} {ord imp : List Nat} {D : Nat} (h : chainB ops rk ord imp D = true) : Chain ops rk ord imp D := by
  unfold chainB at h
  simp only [Bool.and_eq_true, beq_iff_eq, List.all_eq_true, List.mem_range] at h
  obtain ⟨⟨h1, h2⟩, h3⟩ := h
  refine ⟨h1, fun t ht => ?_, fun j hj => (h3 j hj).1, fun j o ho => ?_, fun j o ho => ?_⟩
  · have h := h2 t ht
    cases hi : ord[t]? with
    | none => rw [hi] at h; cases h
    | some i =>
      rw [hi] at h
      simp only [Bool.and_eq_true, decide_eq_true_eq, beq_iff_eq] at h
      exact ⟨i, rfl, h.1, h.2⟩
  · have h := (h3 j (Array.getElem?_eq_some_iff.1 ho).1).2
    rw [ho] at h
    simp only [Bool.and_eq_true] at h
    exact h.1
  · have h := (h3 j (Array.getElem?_eq_some_iff.1 ho).1).2
    rw [ho] at h
    simp only [Bool.and_eq_true, Bool.or_eq_true] at h
    exact h.2

section
variable {rk : Nat → Nat} {ord imp : List Nat} {D : Nat}

theorem Chain.inj (h : Chain ops rk ord imp D) {i j : Nat} (hi : i < ops.size) (hj : j < ops.size) (e : rk i = rk j) : i = j := by
  have h1 := h.inv i hi
  have h2 := h.inv j hj
  rw [e, h2] at h1
  exact (Option.some.inj h1).symm

theorem Chain.set (h : Chain ops rk ord imp D) {i t : Nat} (hi : i < ops.size) (hr : rk i = t) : (below ops rk t).setIfInBounds i true = below ops rk (t + 1) := by
  apply Array.ext_getElem?
  intro j
  rw [Array.getElem?_setIfInBounds, below_get, below_get]
  have hs : (below ops rk t).size = ops.size := by simp [below]
  rw [hs]
  by_cases hij : i = j
  · subst hij
    simp [hi, hr]
  · simp only [hij, if_false]
    by_cases hj : j < ops.size
    · rw [if_pos hj, if_pos hj]
      have : decide (rk j < t) = decide (rk j < t + 1) := by
        rw [decide_eq_decide]
        have : rk j ≠ t := fun e => hij (h.inj hi hj (hr.trans e.symm))
        omega
      rw [this]
    · rw [if_neg hj, if_neg hj]

theorem Chain.edge (h : Chain ops rk ord imp D) {j : Nat} {o : Oper} (ho : ops[j]? = some o) {e : Edge} (he : e ∈ o.after) (hb : Region.binds .any e = true) : e.on < ops.size ∧ rk e.on < rk j := by
  have h1 := h.rank j o ho
  unfold rankB at h1
  simp only [Bool.and_eq_true] at h1
  have h2 := Array.all_eq_true_iff_forall_mem.1 h1.1 e he
  simpa [hb] using h2

theorem Chain.ready (h : Chain ops rk ord imp D) {i t : Nat} (hi : i < ops.size) (hr : rk i = t) : i ∈ Region.ready .any ops (below ops rk t) := by
  refine mem_ready.2 ⟨?_, _, Array.getElem?_eq_getElem hi, fun e he hb => ?_⟩
  · rw [below_getD hi]; simp [hr]
  · obtain ⟨h1, h2⟩ := h.edge (Array.getElem?_eq_getElem hi) he hb
    rw [below_getD h1]
    simp; omega

theorem Chain.free (h : Chain ops rk ord imp D) {i t : Nat} (hi : i < ops.size) (hr : rk i = t) : Region.free .any ops (below ops rk t) i = true := by
  have hoi : ops[i]? = some ops[i] := Array.getElem?_eq_getElem hi
  unfold Region.free
  rw [hoi]
  simp only [List.all_eq_true, List.mem_range]
  intro j hj
  have hoj : ops[j]? = some ops[j] := Array.getElem?_eq_getElem hj
  by_cases hji : j = i
  · simp [hji]
  · by_cases hlt : rk j < t
    · have : (below ops rk t).getD j true = true := by rw [below_getD hj]; simpa using hlt
      simp [this]
    · have hgt : t < rk j := by
        have : rk j ≠ t := fun e => hji (h.inj hj hi (e.trans hr.symm))
        omega
      rw [hoj]
      simp only [Bool.or_eq_true]
      right
      by_cases hw : ops[j].after.any (fun e => Region.binds .any e && e.on == i) = true
      · exact .inl hw
      · right
        have hjo : ownB ops D j ops[j] = true := by
          rcases h.own j _ hoj with h1 | h1
          · exfalso
            unfold allB at h1
            rw [List.all_eq_true] at h1
            have h2 := h1 i (List.mem_range.2 hi)
            simp only [Bool.or_eq_true, beq_iff_eq] at h2
            rcases h2 with h2 | h2
            · exact hji h2.symm
            · exact hw h2
          · exact h1
        have noEdge : ∀ e ∈ ops[i].after, Region.binds .any e = true → e.on ≠ j := fun e he hb heq => by
          have := (h.edge hoi he hb).2
          rw [heq] at this
          omega
        have hio : ownB ops D i ops[i] = true := by
          rcases h.own i _ hoi with h1 | h1
          · exfalso
            unfold allB at h1
            rw [List.all_eq_true] at h1
            have h2 := h1 j (List.mem_range.2 hj)
            simp only [Bool.or_eq_true, beq_iff_eq, Array.any_eq_true'] at h2
            rcases h2 with h2 | ⟨e, he, h2⟩
            · exact hji h2
            · simp only [Bool.and_eq_true, beq_iff_eq] at h2
              exact noEdge e he h2.1 h2.2
          · exact h1
        unfold ownB at hjo hio
        simp only [Bool.and_eq_true, beq_iff_eq, List.all_eq_true, Bool.or_eq_true, decide_eq_true_eq] at hjo hio
        have h1 : (D + i) ∉ ops[j].looksAt ops := by
          intro hm
          rcases hjo.2 _ hm with h | h
          · have h' : (D + i : Nat) < D := h
            omega
          · refine hw ?_
            rw [Array.any_eq_true'] at h ⊢
            obtain ⟨e, he, h3⟩ := h
            refine ⟨e, he, ?_⟩
            simp only [Bool.and_eq_true, beq_iff_eq] at h3 ⊢
            have h4 : (D + e.on : Nat) = D + i := h3.2
            exact ⟨h3.1, by omega⟩
        have h2 : (D + j) ∉ ops[i].looksAt ops := by
          intro hm
          rcases hio.2 _ hm with h | h
          · have h' : (D + j : Nat) < D := h
            omega
          · rw [Array.any_eq_true'] at h
            obtain ⟨e, he, h3⟩ := h
            simp only [Bool.and_eq_true, beq_iff_eq] at h3
            have h4 : (D + e.on : Nat) = D + j := h3.2
            exact noEdge e he h3.1 (by omega)
        unfold Oper.apart
        rw [hjo.1, hio.1]
        simp only [Bool.and_eq_true, Bool.not_eq_true', bne_iff_ne, ne_eq, Option.some.injEq]
        refine ⟨⟨?_, by omega⟩, ?_⟩
        · rw [← Bool.not_eq_true, List.contains_iff_mem]; exact h1
        · rw [← Bool.not_eq_true, List.contains_iff_mem]; exact h2

theorem Chain.alone (h : Chain ops rk ord imp D) {i t : Nat} (hi : i < ops.size) (hr : rk i = t) (him : i ∈ imp) : Region.ready .any ops (below ops rk t) = [i] := by
  refine one_of (List.Pairwise.filter _ List.nodup_range) (h.ready hi hr) fun j hj => ?_
  obtain ⟨h0, o, ho, hall⟩ := mem_ready.1 hj
  have hjl : j < ops.size := (Array.getElem?_eq_some_iff.1 ho).1
  rw [below_getD hjl] at h0
  simp only [decide_eq_false_iff_not] at h0
  by_cases e : rk j = t
  · exact h.inj hjl hi (e.trans hr.symm)
  · exfalso
    have h1 := h.rank j o ho
    unfold rankB at h1
    simp only [Bool.and_eq_true, List.all_eq_true] at h1
    have h2 := h1.2 i him
    simp only [Bool.or_eq_true, Bool.not_eq_true', decide_eq_false_iff_not] at h2
    rcases h2 with h2 | h2
    · omega
    · rw [Array.any_eq_true'] at h2
      obtain ⟨e, he, h3⟩ := h2
      simp only [Bool.and_eq_true, decide_eq_true_eq] at h3
      have h4 := hall e he h3.1
      have h5 := h.edge ho he h3.1
      rw [below_getD h5.1] at h4
      simp only [decide_eq_true_eq] at h4
      omega

theorem Chain.notLast (h : Chain ops rk ord imp D) {i t : Nat} (hi : i < ops.size) (hr : rk i = t) (ht : t + 1 < ops.size) : lastB ops i = false := by
  cases hl : lastB ops i with
  | false => rfl
  | true =>
    exfalso
    obtain ⟨k, hk, hkl, hkr⟩ := h.pos (t + 1) ht
    have wait : ∀ {a b : Nat}, Region.waitsFor .any ops a b = true → rk b < rk a := fun {a b} hw => by
      obtain ⟨o, ho, e, he, hb, heq⟩ := Region.waitsFor_spec hw
      have := (h.edge ho he hb).2
      rw [heq] at this
      exact this
    rcases lastB_spec hl hkl (fun e => by rw [e] at hkr; omega) with hw | ⟨m, h1, h2⟩
    · have := wait hw; omega
    · have := wait h1; have := wait h2; omega

theorem Chain.ok (h : Chain ops rk ord imp D) : ∀ (m t : Nat), t + m = ops.size → okOrd ops ((ord.drop t).map (fun i => (i, !imp.contains i))) (below ops rk t) = true := by
  intro m
  induction m with
  | zero =>
    intro t ht
    have : ord.drop t = [] := List.drop_eq_nil_of_le (by have := h.len; omega)
    rw [this]
    simp only [List.map_nil, okOrd, beq_iff_eq]
    refine List.eq_nil_iff_forall_not_mem.2 fun j hj => ?_
    obtain ⟨h0, o, ho, _⟩ := mem_ready.1 hj
    have hjl : j < ops.size := (Array.getElem?_eq_some_iff.1 ho).1
    rw [below_getD hjl] at h0
    simp only [decide_eq_false_iff_not] at h0
    have h1 := (List.getElem?_eq_some_iff.1 (h.inv j hjl)).1
    have := h.len
    omega
  | succ m ih =>
    intro t ht
    obtain ⟨i, hoi, hi, hr⟩ := h.pos t (by omega)
    have hd : ord.drop t = i :: ord.drop (t + 1) := by
      have hlt := (List.getElem?_eq_some_iff.1 hoi)
      obtain ⟨hlt, he⟩ := hlt
      rw [List.drop_eq_getElem_cons hlt, he]
    have ih' := ih (t + 1) (by omega)
    rw [hd, List.map_cons]
    cases him : imp.contains i with
    | false =>
      simp only [Bool.not_false, okOrd, Bool.and_eq_true]
      refine ⟨⟨?_, h.free hi hr⟩, ?_⟩
      · rw [List.contains_iff_mem]; exact h.ready hi hr
      · rw [h.set hi hr]; exact ih'
    | true =>
      simp only [Bool.not_true, okOrd, Bool.and_eq_true, beq_iff_eq, Bool.or_eq_true, Bool.not_eq_true', List.isEmpty_iff]
      refine ⟨⟨h.alone hi hr (by rw [List.contains_iff_mem] at him; exact him), ?_⟩, ?_⟩
      · by_cases hl : t + 1 < ops.size
        · exact .inl (h.notLast hi hr hl)
        · right
          have : ord.drop (t + 1) = [] := List.drop_eq_nil_of_le (by have := h.len; omega)
          rw [this]; rfl
      · rw [h.set hi hr]; exact ih'

end

/-- Operations one behind the other, true: it reads or reckons; and then the rest of an order. -/
def wpRun (P : Program) (ops : Array Oper) (Q : Exit → Act → World → Prop) (S : World → Prop) (tl : List (Nat × Bool)) : Nat → List Bool → List Oper → Act → World → Prop
  | i, true :: fs, o :: l, a, w => ∃ v, YieldsIf P ops S o v a ∧ wpRun P ops Q S tl (i + 1) fs l (a.put o.dst v) w
  | i, false :: fs, o :: l, a, w => Region.wanted o (yielded ops a.tmps) = true ∧ o.wp P a w (fun a' w' => (lastB ops i = false → S w') ∧ wpRun P ops Q S tl (i + 1) fs l a' w') Q
  | _, _, _, a, w => wpOrd P ops Q S tl a w

theorem wpOrd_of_run {tl : List (Nat × Bool)} : ∀ (l : List Oper) (fs : List Bool) (i : Nat) (a : Act) (w : World), fs.length = l.length → (∀ j, j < l.length → ops[i + j]? = l[j]?) → wpRun P ops Q S tl i fs l a w →
    wpOrd P ops Q S ((List.range' i l.length).zip fs ++ tl) a w
  | [], [], _, _, _, _, _, h => h
  | [], _ :: _, _, _, _, hl, _, _ => by simp at hl
  | _ :: _, [], _, _, _, hl, _, _ => by simp at hl
  | o :: l, true :: fs, i, a, w, hl, ho, ⟨v, hy, h⟩ => by
    rw [List.length_cons, List.range'_succ, List.zip_cons_cons, List.cons_append]
    refine ⟨o, ?_, v, hy, wpOrd_of_run l fs (i + 1) _ w (by simpa using hl) (fun j hj => ?_) h⟩
    · have := ho 0 (by simp)
      simpa using this
    · have := ho (j + 1) (by simp; omega)
      rw [show i + 1 + j = i + (j + 1) by omega, this]
      simp
  | o :: l, false :: fs, i, a, w, hl, ho, ⟨hw, h⟩ => by
    rw [List.length_cons, List.range'_succ, List.zip_cons_cons, List.cons_append]
    have h0 := ho 0 (by simp)
    simp only [Nat.add_zero, List.getElem?_cons_zero] at h0
    unfold wpOrd wpOp
    simp only [h0, hw, if_true]
    refine .inl (Oper.wp_mono (fun a' w' h' => ⟨h'.1, wpOrd_of_run l fs (i + 1) a' w' (by simpa using hl) (fun j hj => ?_) h'.2⟩) h)
    have := ho (j + 1) (by simp; omega)
    rw [show i + 1 + j = i + (j + 1) by omega, this]
    simp

theorem run_pure {tl : List (Nat × Bool)} {i : Nat} {fs : List Bool} {o : Oper} {l : List Oper} {a : Act} {w : World} (hw : Region.wanted o (yielded ops a.tmps) = true)
    (h : ∃ v, (∀ w', S w' → (execOp a.eval o).run P w' = .ok (.value v) w') ∧ wpRun P ops Q S tl (i + 1) fs l (a.put o.dst v) w) : wpRun P ops Q S tl i (true :: fs) (o :: l) a w := by
  obtain ⟨v, h1, h2⟩ := h
  exact ⟨v, .inl ⟨hw, h1⟩, h2⟩

theorem run_run {tl : List (Nat × Bool)} {i : Nat} {fs : List Bool} {o : Oper} {l : List Oper} {a : Act} {w : World} (hw : Region.wanted o (yielded ops a.tmps) = true)
    (h : ∀ K : Act → World → Prop, (∀ a w, S w → wpRun P ops Q S tl (i + 1) fs l a w → K a w) → o.wp P a w K Q) : wpRun P ops Q S tl i (false :: fs) (o :: l) a w :=
  ⟨hw, h _ fun _ _ hS hr => ⟨fun _ => hS, hr⟩⟩

theorem wpOrd_pureG {i : Nat} {o : Oper} {rest : List (Nat × Bool)} {a : Act} {w : World} (ho : ops[i]? = some o) (hw : Region.wanted o (yielded ops a.tmps) = true)
    (h : ∃ v, (∀ w', S w' → (execOp a.eval o).run P w' = .ok (.value v) w') ∧ wpOrd P ops Q S rest (a.put o.dst v) w) : wpOrd P ops Q S ((i, true) :: rest) a w := by
  obtain ⟨v, h1, h2⟩ := h
  exact ⟨o, ho, v, .inl ⟨hw, h1⟩, h2⟩

theorem wpOrd_runG {i : Nat} {o : Oper} {rest : List (Nat × Bool)} {a : Act} {w : World} (ho : ops[i]? = some o) (hw : Region.wanted o (yielded ops a.tmps) = true)
    (h : ∀ K : Act → World → Prop, (∀ a w, S w → wpOrd P ops Q S rest a w → K a w) → o.wp P a w K Q) : wpOrd P ops Q S ((i, false) :: rest) a w := by
  unfold wpOrd wpOp
  simp only [ho, hw, if_true]
  exact .inl (h _ fun a w hS hr => ⟨fun _ => hS, hr⟩)

/-- A very long region that draws its order. -/
theorem region_chain {id : Nat} {a : Act} {w : World} {l : List Oper} (rk : Nat → Nat) (ord imp : List Nat) (D : Nat) (L : List (Nat × Bool)) (S : World → Prop) (hm : P.follows .mixedOrders = true) (hsel : Region.noSelect l.toArray = true)
    (hok : chainB l.toArray rk ord imp D = true) (hQ : ∀ c a (d : Option Tmp) v w, Q (.panic c) (a.put d v) w → Q (.panic c) a w)
    (hL : ord.map (fun i => (i, !imp.contains i)) = L) (hS : S w.drew) (h : wpOrd P l.toArray Q S L a w.drew) : (Code.region id l.toArray true).wp P Q a w := by
  subst hL
  have hc := chain_of hok
  have h0 := hc.ok l.toArray.size 0 (by omega)
  rw [List.drop_zero] at h0
  have e0 : below l.toArray rk 0 = Array.replicate l.toArray.size false := by
    apply Array.ext_getElem?
    intro j
    rw [below_get, Array.getElem?_replicate]
    simp
  rw [e0] at h0
  exact region_ord _ S hm hsel h0 (by rw [List.length_map, hc.len]; simp) hQ hS h

/-- The same, with what lies ahead of the effects in one run, a few operations in another order, and a second run. -/
theorem region_runs {id : Nat} {a : Act} {w : World} {l : List Oper} (rk : Nat → Nat) (ord imp : List Nat) (D n1 : Nat) (f1 : List Bool) (tl : List (Nat × Bool)) (S : World → Prop) (hm : P.follows .mixedOrders = true) (hsel : Region.noSelect l.toArray = true)
    (hok : chainB l.toArray rk ord imp D = true) (hQ : ∀ c a (d : Option Tmp) v w, Q (.panic c) (a.put d v) w → Q (.panic c) a w)
    (hn : n1 ≤ l.length) (hf : f1.length = n1) (hL : ord.map (fun i => (i, !imp.contains i)) = (List.range' 0 n1).zip f1 ++ tl) (hS : S w.drew) (h : wpRun P l.toArray Q S tl 0 f1 (l.take n1) a w.drew) :
    (Code.region id l.toArray true).wp P Q a w := by
  have hlen : (l.take n1).length = n1 := by rw [List.length_take]; omega
  refine region_chain rk ord imp D _ S hm hsel hok hQ hL hS ?_
  have h2 := wpOrd_of_run (l.take n1) f1 0 a w.drew (by omega) (fun j hj => by
    rw [hlen] at hj
    rw [Nat.zero_add, List.getElem?_toArray, List.getElem?_take_of_lt hj]) h
  rw [hlen] at h2
  exact h2

theorem wpOrd_drop {a : Act} {w : World} {l : List Oper} (n m : Nat) (f2 : List Bool) (hm : n + m = l.length) (hf : f2.length = m) (h : wpRun P l.toArray Q S [] n f2 (l.drop n) a w) : wpOrd P l.toArray Q S ((List.range' n m).zip f2) a w := by
  have hlen : (l.drop n).length = m := by rw [List.length_drop]; omega
  have h2 := wpOrd_of_run (l.drop n) f2 n a w (by omega) (fun j hj => by
    rw [List.getElem?_toArray, List.getElem?_drop]) h
  rw [hlen, List.append_nil] at h2
  exact h2

end
end Go.Proofs.Ytopcljikkdlffaa
namespace Go.Proofs.Ytopcljikkdlffaa

/-- Numbers fit, and the identities with n more bytes are short. -/
structure CH.fine (f : CH) (n : Nat) : Prop where
  suites : ∀ x ∈ f.suites, x < 65536
  curves : ∀ x ∈ f.curves, x < 65536
  sigs : ∀ x ∈ f.sigs, x < 65536
  sigsC : ∀ x ∈ f.sigsC, x < 65536
  vers13 : ∀ x ∈ f.vers13, x < 65536
  shares : ∀ x ∈ f.shares, x.1 < 65536
  psks : ∀ x ∈ f.psks, x.2 < 4294967296
  wt : (f.psks.map fun x => x.1.length + 6).sum + n ≤ 65535

theorem be_lt2 {x r s : List UInt8} (h : rd 2 s = some (x, r)) : be x < 65536 := by
  have h1 := be_lt x
  rw [(rd_some h).2] at h1
  exact h1
theorem be_lt4 {x r s : List UInt8} (h : rd 4 s = some (x, r)) : be x < 4294967296 := by
  have h1 := be_lt x
  rw [(rd_some h).2] at h1
  exact h1

theorem twords_fine : ∀ {n : Nat} {s : List UInt8} {L : List Nat}, twords n s = some L → ∀ x ∈ L, x < 65536
  | n, [], L, h => by rw [twords_nil] at h; cases h; simp
  | 0, c :: s, L, h => by simp [twords] at h
  | n + 1, c :: s, L, h => by
    rw [twords_succ (by simp)] at h
    obtain ⟨⟨x, r⟩, h1, h2⟩ := Option.bind_eq_some_iff.1 h
    obtain ⟨L', h3, rfl⟩ := Option.map_eq_some_iff.1 h2
    have h4 := twords_fine h3
    intro y hy
    rcases List.mem_cons.1 hy with rfl | hy
    · exact be_lt2 h1
    · exact h4 y hy

theorem tshares_fine : ∀ {n : Nat} {s : List UInt8} {L : List (Nat × List UInt8)}, tshares n s = some L → ∀ x ∈ L, x.1 < 65536
  | n, [], L, h => by rw [tshares_nil] at h; cases h; simp
  | 0, c :: s, L, h => by simp [tshares] at h
  | n + 1, c :: s, L, h => by
    rw [tshares_succ (by simp)] at h
    obtain ⟨⟨x, r⟩, h1, h2⟩ := Option.bind_eq_some_iff.1 h
    obtain ⟨⟨y, r2⟩, h3, h4⟩ := Option.bind_eq_some_iff.1 h2
    by_cases hy : y = []
    · rw [if_pos hy] at h4; cases h4
    · rw [if_neg hy] at h4
      obtain ⟨L', h5, rfl⟩ := Option.map_eq_some_iff.1 h4
      have h6 := tshares_fine h5
      intro y hy
      rcases List.mem_cons.1 hy with rfl | hy
      · exact be_lt2 h1
      · exact h6 y hy

theorem tpsks_fine : ∀ {n : Nat} {s : List UInt8} {L : List (List UInt8 × Nat)}, tpsks n s = some L → (∀ x ∈ L, x.2 < 4294967296) ∧ (L.map fun x => x.1.length + 6).sum ≤ s.length
  | n, [], L, h => by rw [tpsks_nil] at h; cases h; simp
  | 0, c :: s, L, h => by simp [tpsks] at h
  | n + 1, c :: s, L, h => by
    rw [tpsks_succ (by simp)] at h
    obtain ⟨⟨y, r⟩, h1, h2⟩ := Option.bind_eq_some_iff.1 h
    obtain ⟨⟨x, r2⟩, h3, h4⟩ := Option.bind_eq_some_iff.1 h2
    by_cases hy : y = []
    · rw [if_pos hy] at h4; cases h4
    · rw [if_neg hy] at h4
      obtain ⟨L', h5, rfl⟩ := Option.map_eq_some_iff.1 h4
      obtain ⟨h6, h7⟩ := tpsks_fine h5
      obtain ⟨e4, _⟩ := rdv_some h1
      obtain ⟨e1, e2⟩ := rd_some h3
      have e5 : (c :: s).length = 2 + y.length + r.length := by rw [e4]; simp [en_length]; omega
      have e3 : r.length = x.length + r2.length := by simp only at e1; rw [e1]; simp
      refine ⟨fun z hz => ?_, ?_⟩
      · rcases List.mem_cons.1 hz with rfl | hz
        · exact be_lt4 h3
        · exact h6 z hz
      · simp only [List.map_cons, List.sum_cons]
        simp only [List.length_cons] at e5 ⊢
        simp only at h7
        omega

theorem chExt_fine {f f' : CH} {ty n : Nat} {d rest r : List UInt8} (h : chExt f ty d rest = some (f', r)) (hm : f.fine (d.length + n)) : f'.fine n := by
  have dl2 : ∀ {x r : List UInt8} {d : List UInt8}, rdv 2 d = some (x, r) → x.length ≤ d.length ∧ r.length ≤ d.length := by
    intro x r d h; rw [(rdv_some h).1]; simp; omega
  have app : ∀ {A B : List Nat}, (∀ x ∈ A, x < 65536) → (∀ x ∈ B, x < 65536) → ∀ x ∈ A ++ B, x < 65536 := fun hA hB x hx => (List.mem_append.1 hx).elim (hA x) (hB x)
  obtain ⟨m1, m2, m3, m4, m5, m6, m7, m8⟩ := hm
  unfold chExt at h
  by_cases k0 : ty = 0
  · rw [if_pos k0] at h
    obtain ⟨⟨l, l2⟩, h1, h2⟩ := Option.bind_eq_some_iff.1 h
    by_cases hl : l = []
    · rw [if_pos hl] at h2; cases h2
    · rw [if_neg hl] at h2
      obtain ⟨x, h3, h4⟩ := Option.map_eq_some_iff.1 h2
      cases h4
      exact ⟨m1, m2, m3, m4, m5, m6, m7, by first | omega | (dsimp only; omega)⟩
  rw [if_neg k0] at h
  by_cases k1 : ty = 5
  · rw [if_pos k1] at h
    obtain ⟨l, h1, h2⟩ := Option.bind_eq_some_iff.1 h
    obtain ⟨l2, h3, h4⟩ := Option.bind_eq_some_iff.1 h2
    obtain ⟨x, h5, h6⟩ := Option.map_eq_some_iff.1 h4
    cases h6
    exact ⟨m1, m2, m3, m4, m5, m6, m7, by first | omega | (dsimp only; omega)⟩
  rw [if_neg k1] at h
  by_cases k2 : ty = 10
  · rw [if_pos k2] at h
    obtain ⟨⟨l, l2⟩, h1, h2⟩ := Option.bind_eq_some_iff.1 h
    by_cases hl : l = []
    · rw [if_pos hl] at h2; cases h2
    · rw [if_neg hl] at h2
      obtain ⟨x, h3, h4⟩ := Option.map_eq_some_iff.1 h2
      cases h4
      exact ⟨m1, app m2 (twords_fine h3), m3, m4, m5, m6, m7, by first | omega | (dsimp only; omega)⟩
  rw [if_neg k2] at h
  by_cases k3 : ty = 11
  · rw [if_pos k3] at h
    obtain ⟨l, h1, h2⟩ := Option.bind_eq_some_iff.1 h
    by_cases hl : l.1 = []
    · rw [if_pos hl] at h2; cases h2
    · rw [if_neg hl] at h2
      cases h2
      exact ⟨m1, m2, m3, m4, m5, m6, m7, by first | omega | (dsimp only; omega)⟩
  rw [if_neg k3] at h
  by_cases k4 : ty = 35
  · rw [if_pos k4] at h
    cases h
    exact ⟨m1, m2, m3, m4, m5, m6, m7, by first | omega | (dsimp only; omega)⟩
  rw [if_neg k4] at h
  by_cases k5 : ty = 13
  · rw [if_pos k5] at h
    obtain ⟨⟨l, l2⟩, h1, h2⟩ := Option.bind_eq_some_iff.1 h
    by_cases hl : l = []
    · rw [if_pos hl] at h2; cases h2
    · rw [if_neg hl] at h2
      obtain ⟨x, h3, h4⟩ := Option.map_eq_some_iff.1 h2
      cases h4
      exact ⟨m1, m2, app m3 (twords_fine h3), m4, m5, m6, m7, by first | omega | (dsimp only; omega)⟩
  rw [if_neg k5] at h
  by_cases k6 : ty = 50
  · rw [if_pos k6] at h
    obtain ⟨⟨l, l2⟩, h1, h2⟩ := Option.bind_eq_some_iff.1 h
    by_cases hl : l = []
    · rw [if_pos hl] at h2; cases h2
    · rw [if_neg hl] at h2
      obtain ⟨x, h3, h4⟩ := Option.map_eq_some_iff.1 h2
      cases h4
      exact ⟨m1, m2, m3, app m4 (twords_fine h3), m5, m6, m7, by first | omega | (dsimp only; omega)⟩
  rw [if_neg k6] at h
  by_cases k7 : ty = 65281
  · rw [if_pos k7] at h
    obtain ⟨x, h3, h4⟩ := Option.map_eq_some_iff.1 h
    cases h4
    exact ⟨m1, m2, m3, m4, m5, m6, m7, by first | omega | (dsimp only; omega)⟩
  rw [if_neg k7] at h
  by_cases k8 : ty = 23
  · rw [if_pos k8] at h
    cases h
    exact ⟨m1, m2, m3, m4, m5, m6, m7, by first | omega | (dsimp only; omega)⟩
  rw [if_neg k8] at h
  by_cases k9 : ty = 16
  · rw [if_pos k9] at h
    obtain ⟨⟨l, l2⟩, h1, h2⟩ := Option.bind_eq_some_iff.1 h
    by_cases hl : l = []
    · rw [if_pos hl] at h2; cases h2
    · rw [if_neg hl] at h2
      obtain ⟨x, h3, h4⟩ := Option.map_eq_some_iff.1 h2
      cases h4
      exact ⟨m1, m2, m3, m4, m5, m6, m7, by first | omega | (dsimp only; omega)⟩
  rw [if_neg k9] at h
  by_cases k10 : ty = 18
  · rw [if_pos k10] at h
    cases h
    exact ⟨m1, m2, m3, m4, m5, m6, m7, by first | omega | (dsimp only; omega)⟩
  rw [if_neg k10] at h
  by_cases k11 : ty = 43
  · rw [if_pos k11] at h
    obtain ⟨⟨l, l2⟩, h1, h2⟩ := Option.bind_eq_some_iff.1 h
    by_cases hl : l = []
    · rw [if_pos hl] at h2; cases h2
    · rw [if_neg hl] at h2
      obtain ⟨x, h3, h4⟩ := Option.map_eq_some_iff.1 h2
      cases h4
      exact ⟨m1, m2, m3, m4, app m5 (twords_fine h3), m6, m7, by first | omega | (dsimp only; omega)⟩
  rw [if_neg k11] at h
  by_cases k12 : ty = 44
  · rw [if_pos k12] at h
    obtain ⟨l, h1, h2⟩ := Option.bind_eq_some_iff.1 h
    by_cases hl : l.1 = []
    · rw [if_pos hl] at h2; cases h2
    · rw [if_neg hl] at h2
      cases h2
      exact ⟨m1, m2, m3, m4, m5, m6, m7, by first | omega | (dsimp only; omega)⟩
  rw [if_neg k12] at h
  by_cases k13 : ty = 51
  · rw [if_pos k13] at h
    obtain ⟨⟨l, l2⟩, h1, h2⟩ := Option.bind_eq_some_iff.1 h
    obtain ⟨x, h3, h4⟩ := Option.map_eq_some_iff.1 h2
    cases h4
    exact ⟨m1, m2, m3, m4, m5, fun y hy => (List.mem_append.1 hy).elim (m6 y) (tshares_fine h3 y), m7, by first | omega | (dsimp only; omega)⟩
  rw [if_neg k13] at h
  by_cases k14 : ty = 42
  · rw [if_pos k14] at h
    cases h
    exact ⟨m1, m2, m3, m4, m5, m6, m7, by first | omega | (dsimp only; omega)⟩
  rw [if_neg k14] at h
  by_cases k15 : ty = 45
  · rw [if_pos k15] at h
    obtain ⟨x, h3, h4⟩ := Option.map_eq_some_iff.1 h
    cases h4
    exact ⟨m1, m2, m3, m4, m5, m6, m7, by first | omega | (dsimp only; omega)⟩
  rw [if_neg k15] at h
  by_cases k16 : ty = 57
  · rw [if_pos k16] at h
    cases h
    exact ⟨m1, m2, m3, m4, m5, m6, m7, by first | omega | (dsimp only; omega)⟩
  rw [if_neg k16] at h
  by_cases k17 : ty = 41
  · rw [if_pos k17] at h
    by_cases hrest : rest ≠ []
    · rw [if_pos hrest] at h; cases h
    rw [if_neg hrest] at h
    obtain ⟨⟨l, l2⟩, h1, h2⟩ := Option.bind_eq_some_iff.1 h
    by_cases hl : l = []
    · rw [if_pos hl] at h2; cases h2
    rw [if_neg hl] at h2
    obtain ⟨x, h3, h4⟩ := Option.bind_eq_some_iff.1 h2
    obtain ⟨⟨b, b2⟩, h5, h6⟩ := Option.bind_eq_some_iff.1 h4
    by_cases hb : b = []
    · rw [if_pos hb] at h6; cases h6
    rw [if_neg hb] at h6
    obtain ⟨y, h7, h8⟩ := Option.map_eq_some_iff.1 h6
    cases h8
    obtain ⟨t1, t2⟩ := tpsks_fine h3
    have t3 := dl2 h1
    simp only at t2
    exact ⟨m1, m2, m3, m4, m5, m6, fun y hy => (List.mem_append.1 hy).elim (m7 y) (t1 y), by simp only [List.map_append, List.sum_append]; omega⟩
  rw [if_neg k17] at h
  by_cases k18 : ty = 65037
  · rw [if_pos k18] at h
    cases h
    exact ⟨m1, m2, m3, m4, m5, m6, m7, by first | omega | (dsimp only; omega)⟩
  rw [if_neg k18] at h
  cases h
  exact ⟨m1, m2, m3, m4, m5, m6, m7, by first | omega | (dsimp only; omega)⟩

theorem chExts_fine : ∀ {n : Nat} {seen : List Nat} {f f' : CH} {s : List UInt8}, chExts n seen f s = some f' → f.fine s.length → f'.fine 0
  | n, seen, f, f', [], h, hm => by rw [chExts_nil] at h; cases h; exact hm
  | 0, seen, f, f', c :: s, h, hm => by simp [chExts] at h
  | n + 1, seen, f, f', c :: s, h, hm => by
    rw [chExts_succ (by simp)] at h
    obtain ⟨⟨t, r1⟩, h1, h2⟩ := Option.bind_eq_some_iff.1 h
    obtain ⟨⟨d, r2⟩, h3, h4⟩ := Option.bind_eq_some_iff.1 h2
    by_cases hin : be t ∈ seen
    · rw [if_pos hin] at h4; cases h4
    · rw [if_neg hin] at h4
      obtain ⟨⟨f1, r3⟩, h5, h6⟩ := Option.bind_eq_some_iff.1 h4
      by_cases hr : r3 = []
      · rw [if_pos hr] at h6
        obtain ⟨e1, e2⟩ := rd_some h1
        obtain ⟨e3, _⟩ := rdv_some h3
        have l1 : (c :: s).length = 2 + r1.length := by rw [e1, List.length_append, e2]
        have l2 : r1.length = 2 + d.length + r2.length := by simp only at e3; rw [e3]; simp [en_length]; omega
        refine chExts_fine h6 (chExt_fine h5 ?_)
        obtain ⟨m1, m2, m3, m4, m5, m6, m7, m8⟩ := hm
        exact ⟨m1, m2, m3, m4, m5, m6, m7, by dsimp only; omega⟩
      · rw [if_neg hr] at h6; cases h6

theorem chRead_fine {bs : List UInt8} {f : CH} (h : chRead bs = some f) : f.fine 0 := by
  unfold chRead at h
  obtain ⟨⟨f0, r⟩, h1, h2⟩ := Option.bind_eq_some_iff.1 h
  have hs : f0.fine 65535 := by
    unfold chHead at h1
    obtain ⟨a1, _, h1⟩ := Option.bind_eq_some_iff.1 h1
    obtain ⟨a2, _, h1⟩ := Option.bind_eq_some_iff.1 h1
    obtain ⟨a3, _, h1⟩ := Option.bind_eq_some_iff.1 h1
    obtain ⟨a4, _, h1⟩ := Option.bind_eq_some_iff.1 h1
    obtain ⟨⟨a5, a5'⟩, h5, h1⟩ := Option.bind_eq_some_iff.1 h1
    obtain ⟨L, hL, h1⟩ := Option.bind_eq_some_iff.1 h1
    obtain ⟨a6, _, h1⟩ := Option.map_eq_some_iff.1 h1
    cases h1
    exact ⟨twords_fine hL, by simp, by simp, by simp, by simp, by simp, by simp, by simp⟩
  by_cases hr : r = []
  · rw [if_pos hr] at h2
    cases h2
    obtain ⟨m1, m2, m3, m4, m5, m6, m7, m8⟩ := hs
    exact ⟨m1, m2, m3, m4, m5, m6, m7, by dsimp only; omega⟩
  · rw [if_neg hr] at h2
    obtain ⟨⟨e, e2⟩, h3, h4⟩ := Option.bind_eq_some_iff.1 h2
    by_cases he : e2 = []
    · rw [if_pos he] at h4
      have hl : e.length < 65536 := (rdv_some h3).2
      refine chExts_fine h4 ?_
      dsimp only
      obtain ⟨m1, m2, m3, m4, m5, m6, m7, m8⟩ := hs
      exact ⟨m1, m2, m3, m4, m5, m6, m7, by omega⟩
    · rw [if_neg he] at h4; cases h4

end Go.Proofs.Ytopcljikkdlffaa
