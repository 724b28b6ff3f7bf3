/- A rule for a statement whose order of evaluation Go leaves open, in which two effects may come in either order; what is read need not stand behind the effects that come when all is read. Bundles: a row that was appended to and is not yet stored; two rows that grow in one statement. What the reference makes of the bytes of a ClientHello, in plain words on lists. No program and no memory stand here. No statement of the seat is proved here. -/
import Derived.Test.YtopcljikkdlffaaX01
import Derived.Test.YtopcljikkdlffaaX11
import Derived.Test.YtopcljikkdlffaaX12
import Derived.Test.YtopcljikkdlffaaX13
namespace Go.Proofs.Ytopcljikkdlffaa
open Go

section
variable {P : Program} {ops : Array Oper} {Q : Exit → Act → World → Prop} {S : World → Prop} {need : List Nat}

/-- Operation i waits for all that read, straight or over one or two between. -/
def lateB (need : List Nat) (ops : Array Oper) (i : Nat) : Bool := need.all fun k => Region.waitsFor .any ops i k || (List.range ops.size).any fun m => Region.waitsFor .any ops i m && (Region.waitsFor .any ops m k || (List.range ops.size).any fun n => Region.waitsFor .any ops m n && Region.waitsFor .any ops n k)

theorem not_late {listed : Array Bool} {i j : Nat} (hn : i ∈ need) (hsh : Shut ops listed) (hi : i ∈ Region.ready .any ops listed) (hj : j ∈ Region.ready .any ops listed) : lateB need ops j = false := by
  cases hl : lateB need ops j with
  | false => rfl
  | true =>
    obtain ⟨h0, oi, hoi, _⟩ := mem_ready.1 hi
    obtain ⟨_, oj, hoj, hall⟩ := mem_ready.1 hj
    have bad : listed.getD i false = true → False := fun h => by
      rcases Nat.lt_or_ge i listed.size with h' | h'
      · simp [h'] at h0 h; rw [h0] at h; cases h
      · simp [Array.getElem?_eq_none h'] at h
    have first : ∀ {k : Nat}, Region.waitsFor .any ops j k = true → listed.getD k false = true := fun {k} h => by
      obtain ⟨o, ho, e, he, hb, heq⟩ := Region.waitsFor_spec h
      rw [hoj] at ho
      cases ho
      exact heq ▸ hall e he hb
    have next : ∀ {m k : Nat}, listed.getD m false = true → Region.waitsFor .any ops m k = true → listed.getD k false = true := fun {m k} hm h => by
      obtain ⟨o, ho, e, he, hb, heq⟩ := Region.waitsFor_spec h
      exact heq ▸ hsh m o ho hm e he hb
    unfold lateB at hl
    have h1 := List.all_eq_true.1 hl i hn
    simp only [Bool.or_eq_true, Bool.and_eq_true, List.any_eq_true] at h1
    rcases h1 with h1 | ⟨m, _, h2, h3 | ⟨n, _, h3, h4⟩⟩
    · exact (bad (first h1)).elim
    · exact (bad (next (first h2) h3)).elim
    · exact (bad (next (next (first h2) h3) h4)).elim

/-- Whatever order is picked from here on; S holds behind every operation but those that wait for all that read. -/
def wpAnyN (P : Program) (ops : Array Oper) (Q : Exit → Act → World → Prop) (S : World → Prop) (need : List Nat) : Nat → Array Bool → Act → World → Prop
  | 0, listed, a, w => Region.ready .any ops listed = [] ∧ Q .normal a w
  | fuel + 1, listed, a, w =>
    (Region.ready .any ops listed = [] → Q .normal a w) ∧
    ∀ i ∈ Region.ready .any ops listed, wpOp P ops Q i (fun a' w' => (lateB need ops i = false → S w → S w') ∧ wpAnyN P ops Q S need fuel (listed.setIfInBounds i true) a' w') a w

theorem wpAny_of_N : ∀ (fuel : Nat) (listed : Array Bool) (a : Act) (w : World), wpAnyN P ops Q S need fuel listed a w → wpAny P .any ops Q fuel listed a w
  | 0, _, _, _, h => h
  | fuel + 1, _, _, _, h => ⟨h.1, fun i hi => wpOp_mono (fun a' w' h' => wpAny_of_N fuel _ a' w' h'.2) (h.2 i hi)⟩

theorem wpAnyN_first {i : Nat} {oi : Oper} {v : Value} {T : World → Prop} (hi : ops[i]? = some oi) (hsel : ∀ (j : Nat) (o : Oper) cs b, ops[j]? = some o → o.op ≠ .select cs b)
    (hQ : ∀ c a w, Q (.panic c) (a.put oi.dst v) w → Q (.panic c) a w)
    (hT : ∀ (listed : Array Bool) (j : Nat) (w w' : World), Shut ops listed → i ∈ Region.ready .any ops listed → j ∈ Region.ready .any ops listed → T w → (lateB need ops j = false → S w → S w') → T w') :
    ∀ (fuel : Nat) (listed : Array Bool) (a : Act) (w : World),
      (∀ j oj, ops[j]? = some oj → j ≠ i → listed.getD j true = false → (∀ e ∈ oj.after, Region.binds .any e = true → e.on ≠ i) → oi.apart ops oj = true) →
      Shut ops listed → i ∈ Region.ready .any ops listed → YieldsIf P ops T oi v a → T w →
      wpAnyN P ops Q S need fuel (listed.setIfInBounds i true) (a.put oi.dst v) w → wpAnyN P ops Q S need (fuel + 1) listed a w := by
  intro fuel
  induction fuel with
  | zero =>
    intro listed a w _ _ hr hy hS H
    refine ⟨fun h => (by rw [h] at hr; cases hr), fun j hj => ?_⟩
    by_cases hji : j = i
    · subst hji; exact hy.wpOp hi hS ⟨fun _ h => h, H⟩
    · have := ready_mono hj hji
      rw [H.1] at this
      cases this
  | succ fuel ih =>
    intro listed a w hfree hsh hr hy hS H
    refine ⟨fun h => (by rw [h] at hr; cases hr), fun j hj => ?_⟩
    by_cases hji : j = i
    · subst hji; exact hy.wpOp hi hS ⟨fun _ h => h, H⟩
    · have h1 := H.2 j (ready_mono hj hji)
      obtain ⟨hjun, oj, hoj, hall⟩ := mem_ready.1 hj
      have hnot : ∀ e ∈ oj.after, Region.binds .any e = true → e.on ≠ i := fun e he hb heq => by
        have h1 := hall e he hb
        have h0 := (mem_ready.1 hr).1
        rw [heq] at h1
        rcases Nat.lt_or_ge i listed.size with h' | h'
        · simp [h'] at h0 h1; rw [h0] at h1; cases h1
        · simp [Array.getElem?_eq_none h'] at h1
      have h2 := wpOp_putIf hoj (hfree j oj hoj hji hjun hnot) (fun cs b => hsel i oi cs b hi) (fun cs b => hsel j oj cs b hoj) hQ hy h1
      have hfree' : ∀ k ok, ops[k]? = some ok → k ≠ i → (listed.setIfInBounds j true).getD k true = false →
          (∀ e ∈ ok.after, Region.binds .any e = true → e.on ≠ i) → oi.apart ops ok = true := fun k ok hk hki hun hno => by
        refine hfree k ok hk hki ?_ hno
        by_cases hjk : j = k
        · subst hjk; exact hjun
        · rw [getD_set_ne true hjk] at hun; exact hun
      refine wpOp_mono (fun a' w' h3 => ⟨h3.2.1, ih (listed.setIfInBounds j true) a' w' hfree' (hsh.set hj) (ready_mono hr (Ne.symm hji)) h3.1 (hT listed j w w' hsh hr hj hS h3.2.1) ?_⟩) h2
      rw [Array.setIfInBounds_comm _ _ hji]
      exact h3.2.2

/-- Orders that the edges allow: read: number i reads, under S; free: it reckons; one: it comes up alone; two: either of two may come up. -/
inductive OT
  | done
  | read (i : Nat) (t : OT)
  | free (i : Nat) (t : OT)
  | one (i : Nat) (t : OT)
  | two (i : Nat) (s : OT) (j : Nat) (t : OT)

def OT.len : OT → Nat
  | .done => 0
  | .read _ t => t.len + 1
  | .free _ t => t.len + 1
  | .one _ t => t.len + 1
  | .two _ s _ _ => s.len + 1

def okT (need : List Nat) (ops : Array Oper) : OT → Array Bool → Bool
  | .done, listed => Region.ready .any ops listed == []
  | .read i t, listed => need.contains i && (Region.ready .any ops listed).contains i && Region.free .any ops listed i && okT need ops t (listed.setIfInBounds i true)
  | .free i t, listed => (Region.ready .any ops listed).contains i && Region.free .any ops listed i && okT need ops t (listed.setIfInBounds i true)
  | .one i t, listed => Region.ready .any ops listed == [i] && okT need ops t (listed.setIfInBounds i true)
  | .two i s j t, listed => Region.ready .any ops listed == [i, j] && s.len == t.len && okT need ops s (listed.setIfInBounds i true) && okT need ops t (listed.setIfInBounds j true)

def wpT (P : Program) (ops : Array Oper) (Q : Exit → Act → World → Prop) (S : World → Prop) (need : List Nat) : OT → Act → World → Prop
  | .done, a, w => Q .normal a w
  | .read i t, a, w => S w ∧ ∃ o, ops[i]? = some o ∧ ∃ v, YieldsIf P ops S o v a ∧ wpT P ops Q S need t (a.put o.dst v) w
  | .free i t, a, w => ∃ o, ops[i]? = some o ∧ ∃ v, YieldsIf P ops (fun _ => True) o v a ∧ wpT P ops Q S need t (a.put o.dst v) w
  | .one i t, a, w => wpOp P ops Q i (fun a' w' => (lateB need ops i = false → S w → S w') ∧ wpT P ops Q S need t a' w') a w
  | .two i s j t, a, w => wpOp P ops Q i (fun a' w' => (lateB need ops i = false → S w → S w') ∧ wpT P ops Q S need s a' w') a w ∧ wpOp P ops Q j (fun a' w' => (lateB need ops j = false → S w → S w') ∧ wpT P ops Q S need t a' w') a w

theorem wpAnyN_of_tree (hsel : Region.noSelect ops = true) (hQ : ∀ c a (d : Option Tmp) v w, Q (.panic c) (a.put d v) w → Q (.panic c) a w) :
    ∀ (t : OT) (listed : Array Bool) (a : Act) (w : World), okT need ops t listed = true → Shut ops listed → wpT P ops Q S need t a w → wpAnyN P ops Q S need t.len listed a w
  | .done, listed, a, w, hok, _, h => ⟨by simpa [okT] using hok, h⟩
  | .read i t, listed, a, w, hok, hsh, h => by
    obtain ⟨hS, o, ho, v, hy, h⟩ := h
    simp only [okT, Bool.and_eq_true] at hok
    obtain ⟨⟨⟨h0, h1⟩, h2⟩, h3⟩ := hok
    exact wpAnyN_first (T := S) ho (Region.noSelect_spec hsel) (fun c a w => hQ c a _ _ w) (fun listed j w w' hsh hi hj hw h => h (not_late (by simpa using h0) hsh hi hj) hw) t.len listed a w (Region.free_spec ho h2) hsh (by simpa using h1) hy hS
      (wpAnyN_of_tree hsel hQ t _ _ w h3 (hsh.set (by simpa using h1)) h)
  | .free i t, listed, a, w, hok, hsh, h => by
    obtain ⟨o, ho, v, hy, h⟩ := h
    simp only [okT, Bool.and_eq_true] at hok
    obtain ⟨⟨h1, h2⟩, h3⟩ := hok
    exact wpAnyN_first (T := fun _ => True) ho (Region.noSelect_spec hsel) (fun c a w => hQ c a _ _ w) (fun _ _ _ _ _ _ _ _ _ => trivial) t.len listed a w (Region.free_spec ho h2) hsh (by simpa using h1) hy trivial
      (wpAnyN_of_tree hsel hQ t _ _ w h3 (hsh.set (by simpa using h1)) h)
  | .one i t, listed, a, w, hok, hsh, h => by
    simp only [okT, Bool.and_eq_true, beq_iff_eq] at hok
    obtain ⟨h1, h3⟩ := hok
    refine ⟨fun h0 => (by rw [h0] at h1; cases h1), fun j hj => ?_⟩
    rw [h1] at hj
    obtain rfl : j = i := by simpa using hj
    exact wpOp_mono (fun a' w' h' => ⟨h'.1, wpAnyN_of_tree hsel hQ t _ a' w' h3 (hsh.set (by rw [h1]; simp)) h'.2⟩) h
  | .two i s k t, listed, a, w, hok, hsh, h => by
    simp only [okT, Bool.and_eq_true, beq_iff_eq] at hok
    obtain ⟨⟨⟨h1, hl⟩, h3⟩, h4⟩ := hok
    refine ⟨fun h0 => (by rw [h0] at h1; cases h1), fun j hj => ?_⟩
    rw [h1] at hj
    simp only [List.mem_cons, List.not_mem_nil, or_false] at hj
    rcases hj with rfl | rfl
    · exact wpOp_mono (fun a' w' h' => ⟨h'.1, wpAnyN_of_tree hsel hQ s _ a' w' h3 (hsh.set (by rw [h1]; simp)) h'.2⟩) h.1
    · refine wpOp_mono (fun a' w' h' => ⟨h'.1, ?_⟩) h.2
      have h5 := wpAnyN_of_tree hsel hQ t _ a' w' h4 (hsh.set (by rw [h1]; simp)) h'.2
      rw [← hl] at h5
      exact h5

/-- A region that draws its order. -/
theorem region_tree {id : Nat} {a : Act} {w : World} {l : List Oper} (t : OT) (need : List Nat) (S : World → Prop) (hm : P.follows .mixedOrders = true) (hsel : Region.noSelect l.toArray = true)
    (hok : okT need l.toArray t (Array.replicate l.toArray.size false) = true) (hlen : t.len = l.length) (hQ : ∀ c a (d : Option Tmp) v w, Q (.panic c) (a.put d v) w → Q (.panic c) a w)
    (h : wpT P l.toArray Q S need t a w.drew) : (Code.region id l.toArray true).wp P Q a w := by
  refine wp_region_any hm ?_
  have H := wpAny_of_N _ _ _ _ (wpAnyN_of_tree hsel hQ t _ a w.drew hok (Shut.none _) h)
  rw [hlen, ← List.size_toArray] at H
  exact H

theorem wpT_read {i : Nat} {o : Oper} {t : OT} {a : Act} {w : World} (hS : S w) (ho : ops[i]? = some o) (hg : o.guard = none) (h : ∃ v, (∀ w', S w' → (execOp a.eval o).run P w' = .ok (.value v) w') ∧ wpT P ops Q S need t (a.put o.dst v) w) : wpT P ops Q S need (.read i t) a w := by
  obtain ⟨v, hr, h⟩ := h
  exact ⟨hS, o, ho, v, .inl ⟨by simp [Region.wanted, hg], hr⟩, h⟩

theorem wpT_free {i : Nat} {o : Oper} {t : OT} {a : Act} {w : World} (ho : ops[i]? = some o) (hg : o.guard = none) (h : ∃ v, (∀ w', (execOp a.eval o).run P w' = .ok (.value v) w') ∧ wpT P ops Q S need t (a.put o.dst v) w) : wpT P ops Q S need (.free i t) a w := by
  obtain ⟨v, hr, h⟩ := h
  exact ⟨o, ho, v, .inl ⟨by simp [Region.wanted, hg], fun w' _ => hr w'⟩, h⟩

theorem wpT_op {i : Nat} {o : Oper} {a : Act} {w : World} {R : Act → World → Prop} (ho : ops[i]? = some o) (hg : o.guard = none)
    (h : ∀ K : Act → World → Prop, (∀ a' w', (lateB need ops i = false → S w → S w') → R a' w' → K a' w') → o.wp P a w K Q) : wpOp P ops Q i (fun a' w' => (lateB need ops i = false → S w → S w') ∧ R a' w') a w := by
  unfold wpOp
  simp only [ho, Region.wanted, hg, if_true]
  exact .inl (h _ fun a' w' hS hr => ⟨hS, hr⟩)

theorem wpT_late {i : Nat} {o : Oper} {a : Act} {w : World} {R : Act → World → Prop} (ho : ops[i]? = some o) (hg : o.guard = none) (hl : lateB need ops i = true)
    (h : ∀ K : Act → World → Prop, (∀ a' w', R a' w' → K a' w') → o.wp P a w K Q) : wpOp P ops Q i (fun a' w' => (lateB need ops i = false → S w → S w') ∧ R a' w') a w :=
  wpT_op ho hg fun K hK => h K fun a' w' hr => hK a' w' (fun hf => by rw [hl] at hf; cases hf) hr

theorem wpT_two {i j : Nat} {oi oj : Oper} {s t : OT} {a : Act} {w : World} (hi : ops[i]? = some oi) (gi : oi.guard = none) (hj : ops[j]? = some oj) (gj : oj.guard = none)
    (h1 : ∀ K : Act → World → Prop, (∀ a' w', (lateB need ops i = false → S w → S w') → wpT P ops Q S need s a' w' → K a' w') → oi.wp P a w K Q)
    (h2 : ∀ K : Act → World → Prop, (∀ a' w', (lateB need ops j = false → S w → S w') → wpT P ops Q S need t a' w' → K a' w') → oj.wp P a w K Q) : wpT P ops Q S need (.two i s j t) a w :=
  ⟨wpT_op hi gi h1, wpT_op hj gj h2⟩
theorem wpT_one {i : Nat} {oi : Oper} {t : OT} {a : Act} {w : World} (hi : ops[i]? = some oi) (gi : oi.guard = none)
    (h1 : ∀ K : Act → World → Prop, (∀ a' w', (lateB need ops i = false → S w → S w') → wpT P ops Q S need t a' w' → K a' w') → oi.wp P a w K Q) : wpT P ops Q S need (.one i t) a w := wpT_op hi gi h1
theorem wpT_oneL {i : Nat} {oi : Oper} {t : OT} {a : Act} {w : World} (hi : ops[i]? = some oi) (gi : oi.guard = none) (hl : lateB need ops i = true)
    (h1 : ∀ K : Act → World → Prop, (∀ a' w', wpT P ops Q S need t a' w' → K a' w') → oi.wp P a w K Q) : wpT P ops Q S need (.one i t) a w := wpT_late hi gi hl h1
theorem wpT_done {a : Act} {w : World} (h : Q .normal a w) : wpT P ops Q S need .done a w := h

end
end Go.Proofs.Ytopcljikkdlffaa
namespace Go.Proofs.Ytopcljikkdlffaa
open Go.RowKit

/-- The row v shows is apart from all that the bundle shows. -/
def Held (base : Nat) (Bs : List (Nat × List FD)) (Ms : Option (Nat × List Nat)) (e : TypeId) (size n : Nat) (v : Value) (us : List Value) (w : World) : Prop :=
  w.ownsRow base e size v n us ∧ ∀ k, v.ownBlock = some k → (∀ (c q : Nat) (G : List FD), Bs[c]? = some (q, G) → q ≠ k) ∧
    (∀ (c q : Nat) (G : List FD) (j : Nat) (fd : FD) (v2 : Value), Bs[c]? = some (q, G) → G[j]? = some fd → fd.isOwn = true → w.cell? ⟨q, j, none⟩ = some v2 → v2.ownBlock ≠ some k) ∧ ∀ b seen, Ms = some (b, seen) → b ≠ k

def ownList (v : Value) : List Nat := match v.ownBlock with
  | some k => [k]
  | none => []

section
variable {w0 w w' : World} {C : Array Value} {g m : Nat} {Bs : List (Nat × List FD)} {Ms : Option (Nat × List Nat)}

theorem any_up {b p i : Nat} {F : List FD} {fo : FD} (hb : Bs[b]? = some (p, F)) {c q : Nat} {G : List FD} (hc : (Bs.set b (p, F.set i FD.any))[c]? = some (q, G)) :
    ∃ G', Bs[c]? = some (q, G') ∧ ∀ (j : Nat) (fd : FD), G[j]? = some fd → fd.isOwn = true → G'[j]? = some fd ∧ (c ≠ b ∨ j ≠ i) := by
  rcases set_pair hb hc with ⟨rfl, rfl, rfl⟩ | ⟨hne, hc'⟩
  · refine ⟨F, hb, fun j fd hj ho => ?_⟩
    rcases set_field hj with ⟨rfl, rfl⟩ | ⟨hne, hj'⟩
    · cases ho
    · exact ⟨hj', .inr hne⟩
  · exact ⟨G, hc', fun j fd hj _ => ⟨hj, .inl hne⟩⟩

theorem Held.push {base size n : Nat} {e : TypeId} {v : Value} {us : List Value} (h : Bn w0 C g m Bs Ms w) (hh : Held base Bs Ms e size n v us w) (o : Obj) : Held base Bs Ms e size n v us (w.alloc o) := by
  refine ⟨own_kept hh.1 fun k hk => Below.heap_alloc _ _ _ (hh.1.lt k hk).2, fun k hk => ?_⟩
  obtain ⟨h1, h2, h3⟩ := hh.2 k hk
  refine ⟨h1, fun c q G j fd v2 hc hj ho hv => h2 c q G j fd v2 hc hj ho ?_, h3⟩
  rw [← hv]
  exact (World.cell?_of_block (Below.heap_alloc w _ q (h.lt hc))).symm

/-- An append to a row in a cell; it is not stored. -/
theorem Bn.app (h : Bn w0 C g m Bs Ms w) {b p i e size n : Nat} {R : Value → List Value → Prop} {F : List FD} (hb : Bs[b]? = some (p, F)) (hi : F[i]? = some (.own e size n R)) (t ty : TypeId) (ti : TypeInfo) (z : Value) (bytes : Nat)
    (ht : Try.prog.underlying t = some (.slice e)) (hti : Try.prog.info? e = some ti) (hz : ti.zero = some z) (hsize : ti.size = size) (hby : ti.bytes = bytes) (hzs : z.cells.size = size) (hsz : 0 < size)
    (a : Addr) (mm c : Nat) (news : List Value) (hl : news.length = mm * size) (hnews : ∀ j u, news[j]? = some u → w.cell? (a.add j) = some u) (h1 : ∀ u ∈ news, u.oneCell' = true)
    (h63 : n + mm ≤ maxLen) (hbytes : (n + mm) * bytes ≤ 140737488355328) :
    ∃ v us v' w', w.cell? ⟨p, i, none⟩ = some v ∧ (∃ ao cap, v = .slice ao n cap) ∧ (R v us ∧ us.length = n * size) ∧ (Builtin.append_ #[t, t] ty #[v, .slice (some a) mm c]).run Try.prog w = .ok v' w' ∧
      (∃ ao cap, v' = .slice ao (n + mm) cap) ∧ Bn w0 C g m (Bs.set b (p, F.set i .any)) Ms w' ∧ Held w0.heap.size (Bs.set b (p, F.set i .any)) Ms e size (n + mm) v' (us ++ news) w' ∧
      (∀ (c q : Nat) (G : List FD) (j : Nat), Bs[c]? = some (q, G) → w'.cell? ⟨q, j, none⟩ = w.cell? ⟨q, j, none⟩) ∧ Fs (ownList v) w w' ∧ (∀ k, v'.ownBlock = some k → v.ownBlock = some k ∨ w.heap.size ≤ k) ∧ (∀ k ∈ ownList v, k < w.heap.size) := by
  obtain ⟨v, us, hv, hown, hR⟩ := h.own hb hi
  obtain ⟨v', w', hr, hown', hg, hsharp⟩ := append_sharp (P := Try.prog) w w0.heap.size t ty e ti z size bytes ht hti hz hsize hby hzs hsz v n us hown a mm c news hl hnews h1 h63 hbytes h.fs.size
  have hil : i < F.length := (List.getElem?_eq_some_iff.1 hi).1
  have hbl : b < Bs.length := (List.getElem?_eq_some_iff.1 hb).1
  have hw := h.weak hb hi .any (fun _ _ => trivial) (fun e => by cases e)
  have hF : Fs (ownList v) w w' := ⟨hg.os, hg.tape, hg.output, hg.size, fun k hk hn => hg.block k hk fun e => hn (by unfold ownList; rw [← e]; simp)⟩
  have hol : ∀ k, k ∈ ownList v → v.ownBlock = some k := by
    intro k hk
    unfold ownList at hk
    cases hob : v.ownBlock with
    | none => rw [hob] at hk; cases hk
    | some k0 =>
      rw [hob] at hk
      simp only [List.mem_singleton] at hk
      rw [hk]
  have h3 : Bn w0 C g m (Bs.set b (p, F.set i FD.any)) Ms w' := by
    refine hw.other hF fun k hk => ?_
    have hob := hol k hk
    refine ⟨(hown.lt k hob).1, fun c q G hc => ?_, fun c q G j fd v2 hc hj ho hv2 e => ?_, fun mb seen e e2 => ?_⟩
    · obtain ⟨G', hc', _⟩ := any_up (fo := FD.any) hb hc
      exact h.off b p F i _ v k hb hi rfl hv hob c q G' hc'
    · obtain ⟨G', hc', hx⟩ := any_up (fo := FD.any) hb hc
      obtain ⟨hj', hne⟩ := hx j fd hj ho
      obtain ⟨e1, e3⟩ := h.apart b p F i _ v c q G' j fd v2 k hb hi rfl hv hc' hj' ho hv2 hob e
      rcases hne with hne | hne
      · exact hne e1.symm
      · exact hne e3.symm
    · subst e2
      obtain ⟨es, kk, hmm⟩ := (h.maps mb seen e).1.map
      rcases hown.2 with ⟨rfl, _⟩ | ⟨g', cap, cur, rfl, _, hh, _⟩
      · cases hob
      · simp only [Value.ownBlock, Option.some.injEq] at hob
        subst hob
        rw [hmm] at hh
        cases hh
  have hcell : ∀ {c q : Nat} {G : List FD} (j : Nat), Bs[c]? = some (q, G) → w'.cell? ⟨q, j, none⟩ = w.cell? ⟨q, j, none⟩ := fun {c q G} j hc =>
    World.cell?_of_block (hg.block q (h.lt hc) fun e => h.off b p F i _ v q hb hi rfl hv e.symm c q G hc rfl)
  refine ⟨v, us, v', w', hv, row_slice hown, ⟨hR, hown.1⟩, hr, row_slice hown', h3, ⟨hown', fun k hk => ?_⟩, fun c q G j hc => hcell j hc, hF, hsharp, fun k hk => (hown.lt k (hol k hk)).2⟩
  rcases hsharp k hk with hold | hnew
  · refine ⟨fun c q G hc => ?_, fun c q G j fd v2 hc hj ho hv2 e => ?_, fun mb seen e e2 => ?_⟩
    · obtain ⟨G', hc', _⟩ := any_up (fo := FD.any) hb hc
      exact h.off b p F i _ v k hb hi rfl hv hold c q G' hc'
    · obtain ⟨G', hc', hx⟩ := any_up (fo := FD.any) hb hc
      obtain ⟨hj', hne⟩ := hx j fd hj ho
      rw [hcell j hc'] at hv2
      obtain ⟨e1, e3⟩ := h.apart b p F i _ v c q G' j fd v2 k hb hi rfl hv hc' hj' ho hv2 hold e
      rcases hne with hne | hne
      · exact hne e1.symm
      · exact hne e3.symm
    · subst e2
      obtain ⟨es, kk, hmm⟩ := (h.maps mb seen e).1.map
      rcases hown.2 with ⟨rfl, _⟩ | ⟨g', cap, cur, rfl, _, hh, _⟩
      · cases hold
      · simp only [Value.ownBlock, Option.some.injEq] at hold
        subst hold
        rw [hmm] at hh
        cases hh
  · refine ⟨fun c q G hc e => ?_, fun c q G j fd v2 hc hj ho hv2 e => ?_, fun mb seen e e2 => ?_⟩
    · obtain ⟨G', hc', _⟩ := any_up (fo := FD.any) hb hc
      have := h.lt hc'
      omega
    · obtain ⟨G', hc', hx⟩ := any_up (fo := FD.any) hb hc
      obtain ⟨hj', hne⟩ := hx j fd hj ho
      rw [hcell j hc'] at hv2
      obtain ⟨u, hu, hru⟩ := h.rel c q G' j fd hc' hj'
      rw [hv2] at hu
      cases hu
      have := (hru.lt ho k e).2
      omega
    · obtain ⟨es, kk, hmm⟩ := (h.maps mb seen e).1.map
      have := (Array.getElem?_eq_some_iff.1 hmm).1
      omega

/-- A row that is held outlives an append to a row of the bundle. -/
theorem Held.app {base size n : Nat} {e : TypeId} {v v2 : Value} {us : List Value} (h : Bn w0 C g m Bs Ms w) (hh : Held base Bs Ms e size n v us w) {b p i : Nat} {F : List FD} {fo : FD} (hb : Bs[b]? = some (p, F)) (hi : F[i]? = some fo) (ho : fo.isOwn = true) (hv2 : w.cell? ⟨p, i, none⟩ = some v2) (hf : Fs (ownList v2) w w')
    (hcell : ∀ (c q : Nat) (G : List FD) (j : Nat), Bs[c]? = some (q, G) → w'.cell? ⟨q, j, none⟩ = w.cell? ⟨q, j, none⟩) : Held base (Bs.set b (p, F.set i .any)) Ms e size n v us w' := by
  refine ⟨own_kept hh.1 fun k hk => hf.keep k (hh.1.lt k hk).2 fun hm => ?_, fun k hk => ?_⟩
  · have h2 := (hh.2 k hk).2.1 b p F i fo v2 hb hi ho hv2
    unfold ownList at hm
    cases hob : v2.ownBlock with
    | none => rw [hob] at hm; cases hm
    | some k0 =>
      rw [hob] at hm h2
      simp only [List.mem_singleton] at hm
      exact h2 (by rw [hm])
  · obtain ⟨h1, h2, h3⟩ := hh.2 k hk
    refine ⟨fun c q G hc => ?_, fun c q G j fd v3 hc hj ho' hv3 => ?_, h3⟩
    · obtain ⟨G', hc', _⟩ := any_up (fo := FD.any) hb hc
      exact h1 c q G' hc'
    · obtain ⟨G', hc', hx⟩ := any_up (fo := FD.any) hb hc
      rw [hcell c q G' j hc'] at hv3
      exact h2 c q G' j fd v3 hc' (hx j fd hj ho').1 ho' hv3

/-- A row that is held is stored. -/
theorem Bn.put (h : Bn w0 C g m Bs Ms w) {b p i e size n : Nat} {F : List FD} {fo : FD} {v : Value} {us : List Value} (hb : Bs[b]? = some (p, F)) (hi : F[i]? = some fo) (hh : Held w0.heap.size Bs Ms e size n v us w) (R : Value → List Value → Prop) (hR : R v us) :
    Bn w0 C g m (Bs.set b (p, F.set i (.own e size n R))) Ms (w.setCell ⟨p, i, none⟩ v) :=
  h.store hb hi (.own e size n R) v ⟨us, hh.1, hR⟩ fun _ k hk => ⟨(hh.2 k hk).1, fun c q G j fd' v' hc hj ho' hv' e => absurd e ((hh.2 k hk).2.1 c q G j fd' v' hc hj ho' hv')⟩

theorem Held.put {size n size2 n2 : Nat} {e e2 : TypeId} {v v2 : Value} {us2 : List Value} (h : Bn w0 C g m Bs Ms w) {b p i : Nat} {F : List FD} {fo : FD} (hb : Bs[b]? = some (p, F)) (hi : F[i]? = some fo) (hh : Held w0.heap.size Bs Ms e2 size2 n2 v2 us2 w) (R : Value → List Value → Prop)
    (hne : ∀ k, v.ownBlock = some k → v2.ownBlock ≠ some k) : Held w0.heap.size (Bs.set b (p, F.set i (.own e size n R))) Ms e2 size2 n2 v2 us2 (w.setCell ⟨p, i, none⟩ v) := by
  have hpk : ∀ k, v2.ownBlock = some k → k ≠ p := fun k hk e => (hh.2 k hk).1 b p F hb e.symm
  refine ⟨own_kept hh.1 fun k hk => Below.heap_setCell w _ _ k (hpk k hk), fun k hk => ?_⟩
  obtain ⟨h1, h2, h3⟩ := hh.2 k hk
  refine ⟨fun c q G hc => ?_, fun c q G j fd v3 hc hj ho' hv3 => ?_, h3⟩
  · rcases set_pair hb hc with ⟨rfl, rfl, rfl⟩ | ⟨_, hc'⟩
    · exact h1 _ _ F hb
    · exact h1 c q G hc'
  · rcases set_pair hb hc with ⟨rfl, rfl, rfl⟩ | ⟨hne', hc'⟩
    · rcases set_field hj with ⟨rfl, rfl⟩ | ⟨hne2, hj'⟩
      · obtain ⟨u, hu, _⟩ := h.rel _ _ F j fo hb hi
        rw [cell_same hu] at hv3
        cases hv3
        intro hx
        exact hne k hx hk
      · rw [cell_other_off (.inr (fun e => hne2 e.symm))] at hv3
        exact h2 _ _ F j fd v3 hb hj' ho' hv3
    · have hpq : p ≠ q := fun e => hne' (h.nodup c b q G F hc' (e ▸ hb))
      rw [cell_other_off (.inl hpq)] at hv3
      exact h2 c q G j fd v3 hc' hj ho' hv3

/-- The second of two appends in one statement, and both stores. -/
theorem Bn.second (h : Bn w0 C g m Bs Ms w) {b p i1 i e1 size1 n1 e size n : Nat} {R : Value → List Value → Prop} {F : List FD} {v1 : Value} {us1 : List Value} (hb : Bs[b]? = some (p, F)) (hi1 : F[i1]? = some .any) (hi : F[i]? = some (.own e size n R)) (hh : Held w0.heap.size Bs Ms e1 size1 n1 v1 us1 w)
    (t ty : TypeId) (ti : TypeInfo) (z : Value) (bytes : Nat)
    (ht : Try.prog.underlying t = some (.slice e)) (hti : Try.prog.info? e = some ti) (hz : ti.zero = some z) (hsize : ti.size = size) (hby : ti.bytes = bytes) (hzs : z.cells.size = size) (hsz : 0 < size)
    (a : Addr) (mm c : Nat) (news : List Value) (hl : news.length = mm * size) (hnews : ∀ j u, news[j]? = some u → w.cell? (a.add j) = some u) (h1 : ∀ u ∈ news, u.oneCell' = true)
    (h63 : n + mm ≤ maxLen) (hbytes : (n + mm) * bytes ≤ 140737488355328) :
    ∃ v us v' w', w.cell? ⟨p, i, none⟩ = some v ∧ (R v us ∧ us.length = n * size) ∧ (Builtin.append_ #[t, t] ty #[v, .slice (some a) mm c]).run Try.prog w = .ok v' w' ∧
      (∃ ao cap, v' = .slice ao (n + mm) cap) ∧ (∀ (c q : Nat) (G : List FD) (j : Nat), Bs[c]? = some (q, G) → w'.cell? ⟨q, j, none⟩ = w.cell? ⟨q, j, none⟩) ∧ (∀ j, w'.frozen? ⟨p, j, none⟩ = false) ∧
      ∀ (R1 R2 : Value → List Value → Prop) (n2 : Nat), n2 = n + mm → R1 v1 us1 → R2 v' (us ++ news) → Bn w0 C g m (Bs.set b (p, (F.set i1 (.own e1 size1 n1 R1)).set i (.own e size n2 R2))) Ms ((w'.setCell ⟨p, i1, none⟩ v1).setCell ⟨p, i, none⟩ v') := by
  obtain ⟨v, us, v', w', hv, _, hR, hrun, hsl, hB, hH, hcell, hF, hsharp, hlt⟩ := h.app hb hi t ty ti z bytes ht hti hz hsize hby hzs hsz a mm c news hl hnews h1 h63 hbytes
  have hbl : b < Bs.length := (List.getElem?_eq_some_iff.1 hb).1
  have hil : i < F.length := (List.getElem?_eq_some_iff.1 hi).1
  have hne : i ≠ i1 := by
    rintro rfl
    rw [hi] at hi1
    cases hi1
  have hb2 : (Bs.set b (p, F.set i FD.any))[b]? = some (p, F.set i FD.any) := by rw [List.getElem?_set_self hbl]
  have hH1 := hh.app h hb hi rfl hv hF hcell
  have hi1' : (F.set i FD.any)[i1]? = some .any := by rw [List.getElem?_set_ne hne]; exact hi1
  refine ⟨v, us, v', w', hv, hR, hrun, hsl, hcell, fun j => hB.frozen hb2 j, fun R1 R2 n2 hn2 hR1 hR2 => ?_⟩
  subst hn2
  have hap : ∀ k, v1.ownBlock = some k → v'.ownBlock ≠ some k := by
    intro k hk e
    rcases hsharp k e with hold | hnew
    · exact (hh.2 k hk).2.1 b p F i _ v hb hi rfl hv hold
    · have := (hh.1.lt k hk).2
      omega
  have hP := hB.put hb2 hi1' hH1 R1 hR1
  have hH2 := hH.put (e := e1) (size := size1) (n := n1) hB hb2 hi1' R1 hap
  have hb3 : ((Bs.set b (p, F.set i FD.any)).set b (p, (F.set i FD.any).set i1 (.own e1 size1 n1 R1)))[b]? = some (p, (F.set i FD.any).set i1 (.own e1 size1 n1 R1)) := by
    rw [List.getElem?_set_self (by simpa using hbl)]
  have hi3 : ((F.set i FD.any).set i1 (.own e1 size1 n1 R1))[i]? = some .any := by
    rw [List.getElem?_set_ne (fun e => hne e.symm), List.getElem?_set_self hil]
  have hP2 := hP.put hb3 hi3 hH2 R2 hR2
  have e : (((F.set i FD.any).set i1 (.own e1 size1 n1 R1)).set i (.own e size (n + mm) R2)) = (F.set i1 (.own e1 size1 n1 R1)).set i (.own e size (n + mm) R2) := by
    rw [List.set_comm _ _ hne, List.set_set]
  rw [e, List.set_set, List.set_set] at hP2
  exact hP2

end
end Go.Proofs.Ytopcljikkdlffaa
namespace Go.Proofs.Ytopcljikkdlffaa
open Go.RowKit

/-- Numbers of 16 bits until nothing is left. -/
def rw16 : Nat → Nat × List UInt8 → List Nat × (Nat × List UInt8)
  | 0, sp => ([], sp)
  | f + 1, sp => if sp.2 = [] then ([], sp) else ((rnum 2 sp).1 :: (rw16 f (rnum 2 sp).2).1, (rw16 f (rnum 2 sp).2).2)

theorem rw16_nil (f : Nat) (sp : Nat × List UInt8) (h : sp.2 = []) : rw16 f sp = ([], sp) := by
  cases f with
  | zero => rfl
  | succ f => show (if sp.2 = [] then _ else _) = _; rw [if_pos h]
theorem rw16_succ (f : Nat) (sp : Nat × List UInt8) (h : sp.2 ≠ []) : rw16 (f + 1) sp = ((rnum 2 sp).1 :: (rw16 f (rnum 2 sp).2).1, (rw16 f (rnum 2 sp).2).2) := by
  show (if sp.2 = [] then _ else _) = _
  rw [if_neg h]

/-- Numbers out of bytes bx. -/
def rwords (st : Nat × List UInt8) (bx : List UInt8) : List Nat × (Nat × List UInt8) := ((rw16 bx.length (rin st bx)).1, rdone st (rw16 bx.length (rin st bx)).2)

/-- Vectors out of bytes bx. -/
def rvecsIn (k low : Nat) (st : Nat × List UInt8) (bx : List UInt8) : List (List UInt8) × (Nat × List UInt8) := ((rvecs k low bx.length (rin st bx)).1, rdone st (rvecs k low bx.length (rin st bx)).2)

/-- Numbers in a vector; vectors in a vector. -/
def rvw (k high : Nat) (st : Nat × List UInt8) : List Nat × (Nat × List UInt8) := rwords (rvec k 2 high st).2 (rvec k 2 high st).1
def rvv (st : Nat × List UInt8) : List (List UInt8) × (Nat × List UInt8) := rvecsIn 1 1 (rvec 2 2 65535 st).2 (rvec 2 2 65535 st).1

/-- A number of one byte, of which one alone is spoken of. -/
def rkind (kind : Nat) (st : Nat × List UInt8) : Nat × List UInt8 := if (rnum 1 st).1 = kind then (rnum 1 st).2 else rfail 1 (rnum 1 st).2

/-- A name; nothing is said of one that ends in a dot, nor of further ones. -/
def rhost (h : List UInt8 × (Nat × List UInt8)) : Nat × List UInt8 := if h.1 ≠ [] ∧ (h.1.getLast? = some 46 ∨ h.2.2 ≠ []) then rfail 1 h.2 else h.2
def rname1 (st : Nat × List UInt8) : List UInt8 × (Nat × List UInt8) := rvec 2 1 65535 (rkind 0 (rin (rvec 2 1 65535 st).2 (rvec 2 1 65535 st).1))
def rname (st : Nat × List UInt8) : List UInt8 × (Nat × List UInt8) := ((rname1 st).1, rdone (rvec 2 1 65535 st).2 (rhost (rname1 st)))

/-- Key shares until nothing is left. -/
def rsh : Nat → Nat × List UInt8 → List (Nat × List UInt8) × (Nat × List UInt8)
  | 0, y => ([], y)
  | f + 1, y => if y.2 = [] then ([], y) else (((rnum 2 y).1, (rvec 2 1 65535 (rnum 2 y).2).1) :: (rsh f (rvec 2 1 65535 (rnum 2 y).2).2).1, (rsh f (rvec 2 1 65535 (rnum 2 y).2).2).2)

theorem rsh_nil (f : Nat) (sp : Nat × List UInt8) (h : sp.2 = []) : rsh f sp = ([], sp) := by
  cases f with
  | zero => rfl
  | succ f => show (if sp.2 = [] then _ else _) = _; rw [if_pos h]
theorem rsh_succ (f : Nat) (y : Nat × List UInt8) (h : y.2 ≠ []) : rsh (f + 1) y = (((rnum 2 y).1, (rvec 2 1 65535 (rnum 2 y).2).1) :: (rsh f (rvec 2 1 65535 (rnum 2 y).2).2).1, (rsh f (rvec 2 1 65535 (rnum 2 y).2).2).2) := by
  show (if y.2 = [] then _ else _) = _
  rw [if_neg h]

def rshares (st : Nat × List UInt8) : List (Nat × List UInt8) × (Nat × List UInt8) :=
  ((rsh (rvec 2 0 65535 st).1.length (rin (rvec 2 0 65535 st).2 (rvec 2 0 65535 st).1)).1, rdone (rvec 2 0 65535 st).2 (rsh (rvec 2 0 65535 st).1.length (rin (rvec 2 0 65535 st).2 (rvec 2 0 65535 st).1)).2)

/-- Identities of keys until nothing is left. -/
def rid : Nat → Nat × List UInt8 → List (List UInt8 × Nat) × (Nat × List UInt8)
  | 0, y => ([], y)
  | f + 1, y => if y.2 = [] then ([], y) else (((rvec 2 1 65535 y).1, (rnum 4 (rvec 2 1 65535 y).2).1) :: (rid f (rnum 4 (rvec 2 1 65535 y).2).2).1, (rid f (rnum 4 (rvec 2 1 65535 y).2).2).2)

theorem rid_nil (f : Nat) (sp : Nat × List UInt8) (h : sp.2 = []) : rid f sp = ([], sp) := by
  cases f with
  | zero => rfl
  | succ f => show (if sp.2 = [] then _ else _) = _; rw [if_pos h]
theorem rid_succ (f : Nat) (y : Nat × List UInt8) (h : y.2 ≠ []) : rid (f + 1) y = (((rvec 2 1 65535 y).1, (rnum 4 (rvec 2 1 65535 y).2).1) :: (rid f (rnum 4 (rvec 2 1 65535 y).2).2).1, (rid f (rnum 4 (rvec 2 1 65535 y).2).2).2) := by
  show (if y.2 = [] then _ else _) = _
  rw [if_neg h]

def rids (st : Nat × List UInt8) : List (List UInt8 × Nat) × (Nat × List UInt8) :=
  ((rid (rvec 2 7 65535 st).1.length (rin (rvec 2 7 65535 st).2 (rvec 2 7 65535 st).1)).1, rdone (rvec 2 7 65535 st).2 (rid (rvec 2 7 65535 st).1.length (rin (rvec 2 7 65535 st).2 (rvec 2 7 65535 st).1)).2)

/-- No list of bytes has a length in a range. -/
def rnone (low high : Nat) (L : List (List UInt8)) : Bool := L.all fun x => !(decide (low ≤ x.length) && decide (x.length ≤ high))

/-- Binders, behind n identities. -/
def rbind (n : Nat) (st : Nat × List UInt8) : List (List UInt8) × (Nat × List UInt8) :=
  ((rvv st).1, if (rvv st).2.1 = 0 ∧ ((rvv st).1.length ≠ n ∨ rnone 1 31 (rvv st).1 = false) then rfail 1 (rvv st).2 else (rvv st).2)

theorem rvecs_many (k low : Nat) (hk : 0 < k) : ∀ (n : Nat) (sp : Nat × List UInt8), (rvecs k low n sp).1.length ≤ sp.2.length
  | 0, sp => by simp [rvecs]
  | n + 1, sp => by
    by_cases h : sp.2 = []
    · simp [rvecs, h]
    · have e : rvecs k low (n + 1) sp = ((rvec k low (256 ^ k - 1) sp).1 :: (rvecs k low n (rvec k low (256 ^ k - 1) sp).2).1, (rvecs k low n (rvec k low (256 ^ k - 1) sp).2).2) := by
        show (if sp.2 = [] then _ else _) = _
        rw [if_neg h]
      rw [e]
      have h1 := rvecs_many k low hk n (rvec k low (256 ^ k - 1) sp).2
      have h2 := rvec_rest (low := low) (high := 256 ^ k - 1) hk h
      simp only [List.length_cons]
      omega
theorem rvecs_many2 (k low : Nat) (hk : 0 < k) (st : Nat × List UInt8) (bx : List UInt8) : (rvecs k low bx.length (rin st bx)).1.length ≤ bx.length := by
  have h := rvecs_many k low hk bx.length (rin st bx)
  have e : (rin st bx).2.length ≤ bx.length := by
    unfold rin
    dsimp only
    split <;> simp
  omega

/-- Modes: none is not spoken of. -/
def rmodes (st : Nat × List UInt8) : Nat × List UInt8 := if (rvec 1 0 255 st).1 = [] then rfail 1 (rvec 1 0 255 st).2 else (rvec 1 0 255 st).2

/-- One extension of TLS 1.3: what becomes of the fields and of the reader. -/
def rcext13 (kind : Nat) (f : CH) (st : Nat × List UInt8) : CH × (Nat × List UInt8) :=
  if kind = 43 then ({ f with vers13 := (rvw 1 255 st).1 }, (rvw 1 255 st).2)
  else if kind = 44 then ({ f with cookie := (rvec 2 1 65535 st).1 }, (rvec 2 1 65535 st).2)
  else if kind = 51 then ({ f with shares := f.shares ++ (rshares st).1 }, (rshares st).2)
  else if kind = 42 then ({ f with early := true }, st)
  else if kind = 45 then ({ f with modes := (rvec 1 0 255 st).1 }, rmodes st)
  else if kind = 57 then ({ f with quic := some st.2 }, (st.1, []))
  else if kind = 65037 then ({ f with ech := (rrest st).1 }, (rrest st).2)
  else if kind = 41 then ({ f with psks := f.psks ++ (rids st).1, binders := (rbind (f.psks ++ (rids st).1).length (rids st).2).1 }, (rbind (f.psks ++ (rids st).1).length (rids st).2).2)
  else (f, (st.1, []))

/-- One extension. -/
def rcext (kind : Nat) (f : CH) (st : Nat × List UInt8) : CH × (Nat × List UInt8) :=
  if kind = 0 then ({ f with name := (rname st).1 }, (rname st).2)
  else if kind = 5 then ({ f with ocsp := true }, (rvec 2 0 65535 (rvec 2 0 65535 (rkind 1 st)).2).2)
  else if kind = 10 then ({ f with curves := (rvw 2 65535 st).1 }, (rvw 2 65535 st).2)
  else if kind = 11 then ({ f with points := (rvec 1 1 255 st).1 }, (rvec 1 1 255 st).2)
  else if kind = 35 then ({ f with ticket := true, tickets := st.2 }, (st.1, []))
  else if kind = 13 then ({ f with sigs := (rvw 2 65535 st).1 }, (rvw 2 65535 st).2)
  else if kind = 50 then ({ f with sigsC := (rvw 2 65535 st).1 }, (rvw 2 65535 st).2)
  else if kind = 65281 then ({ f with srs := true, sr := (rvec 1 0 255 st).1 }, (rvec 1 0 255 st).2)
  else if kind = 23 then ({ f with ems := true }, st)
  else if kind = 16 then ({ f with alpn := (rvv st).1 }, (rvv st).2)
  else if kind = 18 then ({ f with scts := true }, st)
  else rcext13 kind f st

end Go.Proofs.Ytopcljikkdlffaa
