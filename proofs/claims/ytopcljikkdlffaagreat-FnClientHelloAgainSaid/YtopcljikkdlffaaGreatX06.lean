/- Bundles: blocks of cells and what each cell shows, rows of their own that grow, a map of what was seen. No statement of the seat is proved here. -/
import Derived.Test.YtopcljikkdlffaaGreatX05
import Derived.Test.YtopcljikkdlffaaGreatX04
namespace Go.Proofs.YtopcljikkdlffaaGreat
open Go.RowKit

/-- What a cell shows: anything; one value; bytes of the data; bytes of the data or nil; bytes of the data, nil where there are none; a row of its own. -/
inductive FD
  | any
  | val (v : Value)
  | vw (l : List UInt8)
  | vn (l : List UInt8)
  | vz (l : List UInt8)
  | own (e : TypeId) (size n : Nat) (R : Value → List Value → Prop)

def FD.isOwn : FD → Bool
  | .own .. => true
  | _ => false

/-- The value v shows what fd says. -/
def FRel (w : World) (base : Nat) (C : Array Value) (g : Nat) : FD → Value → Prop
  | .any, _ => True
  | .val u, v => v = u
  | .vw l, v => View C g v l
  | .vn l, v => VN C g v l
  | .vz l, v => (l = [] ∧ v = .slice none 0 0) ∨ (l ≠ [] ∧ View C g v l)
  | .own e size n R, v => ∃ us, w.ownsRow base e size v n us ∧ R v us

theorem FRel.plain {w w' : World} {base base' : Nat} {C : Array Value} {g : Nat} {fd : FD} {v : Value} (h : FRel w base C g fd v) (hn : fd.isOwn = false) : FRel w' base' C g fd v := by
  cases fd <;> first | exact h | cases hn

theorem own_kept {w w' : World} {base size n : Nat} {e : TypeId} {v : Value} {xs : List Value} (h : w.ownsRow base e size v n xs) (hk : ∀ k, v.ownBlock = some k → w'.heap[k]? = w.heap[k]?) : w'.ownsRow base e size v n xs := by
  refine ⟨h.1, ?_⟩
  rcases h.2 with h2 | ⟨p, cap, cur, hv, hb, hh, r⟩
  · exact .inl h2
  · exact .inr ⟨p, cap, cur, hv, hb, (hk p (by rw [hv]; rfl)).trans hh, r⟩

theorem FRel.kept {w w' : World} {base : Nat} {C : Array Value} {g : Nat} {fd : FD} {v : Value} (h : FRel w base C g fd v) (hk : fd.isOwn = true → ∀ k, v.ownBlock = some k → w'.heap[k]? = w.heap[k]?) : FRel w' base C g fd v := by
  cases fd with
  | own e size n R =>
    obtain ⟨us, h1, h2⟩ := h
    exact ⟨us, own_kept h1 (hk rfl), h2⟩
  | any => exact h
  | val u => exact h
  | vw l => exact h
  | vn l => exact h
  | vz l => exact h

theorem FRel.lt {w : World} {base : Nat} {C : Array Value} {g : Nat} {fd : FD} {v : Value} (h : FRel w base C g fd v) (ho : fd.isOwn = true) : ∀ k, v.ownBlock = some k → base ≤ k ∧ k < w.heap.size := by
  cases fd with
  | own e size n R =>
    obtain ⟨us, h1, _⟩ := h
    exact h1.lt
  | _ => cases ho

theorem FRel.obj {w : World} {base : Nat} {C : Array Value} {g : Nat} {fd : FD} {v : Value} (h : FRel w base C g fd v) (ho : fd.isOwn = true) : ∀ k, v.ownBlock = some k → ∃ cs e fr, w.heap[k]? = some (.cells cs e fr) := by
  cases fd with
  | own e size n R =>
    obtain ⟨us, h1, _⟩ := h
    intro k hk
    rcases h1.2 with ⟨rfl, _⟩ | ⟨p, cap, cur, rfl, _, hh, _⟩
    · cases hk
    · simp only [Value.ownBlock, Option.some.injEq] at hk
      subst hk
      exact ⟨_, _, _, hh⟩
  | _ => cases ho

/-- Blocks Bs, what each of their cells shows, over the data C in block g; the world has not turned since w0 but for block m and what is new. -/
structure Bn (w0 : World) (C : Array Value) (g m : Nat) (Bs : List (Nat × List FD)) (Ms : Option (Nat × List Nat)) (w : World) : Prop where
  fs : Fs [m] w0 w
  gm : g ≠ m
  data0 : ∃ T fr, w0.heap[g]? = some (.cells C T fr)
  nodup : ∀ (b c : Nat) (p : Nat) (F G : List FD), Bs[b]? = some (p, F) → Bs[c]? = some (p, G) → b = c
  old : ∀ (b p : Nat) (F : List FD), Bs[b]? = some (p, F) → p = m ∨ w0.heap.size ≤ p
  blk : ∀ (b p : Nat) (F : List FD), Bs[b]? = some (p, F) → ∃ D T, w.heap[p]? = some (.cells D T (0, 0)) ∧ D.size = F.length
  rel : ∀ (b p : Nat) (F : List FD) (i : Nat) (fd : FD), Bs[b]? = some (p, F) → F[i]? = some fd → ∃ v, w.cell? ⟨p, i, none⟩ = some v ∧ FRel w w0.heap.size C g fd v
  off : ∀ (b p : Nat) (F : List FD) (i : Nat) (fd : FD) (v : Value) (k : Nat), Bs[b]? = some (p, F) → F[i]? = some fd → fd.isOwn = true → w.cell? ⟨p, i, none⟩ = some v → v.ownBlock = some k → ∀ (c q : Nat) (G : List FD), Bs[c]? = some (q, G) → q ≠ k
  apart : ∀ (b p : Nat) (F : List FD) (i : Nat) (fd : FD) (v : Value) (c q : Nat) (G : List FD) (j : Nat) (fd' : FD) (v' : Value) (k : Nat), Bs[b]? = some (p, F) → F[i]? = some fd → fd.isOwn = true → w.cell? ⟨p, i, none⟩ = some v →
    Bs[c]? = some (q, G) → G[j]? = some fd' → fd'.isOwn = true → w.cell? ⟨q, j, none⟩ = some v' → v.ownBlock = some k → v'.ownBlock = some k → b = c ∧ i = j
  maps : ∀ b seen, Ms = some (b, seen) → SeenAt w b seen ∧ w0.heap.size ≤ b

section
variable {w0 w w' : World} {C : Array Value} {g m : Nat} {Bs : List (Nat × List FD)} {Ms : Option (Nat × List Nat)}

theorem Bn.data (h : Bn w0 C g m Bs Ms w) : ∃ T fr, w.heap[g]? = some (.cells C T fr) := by
  obtain ⟨T, fr, hg⟩ := h.data0
  exact ⟨T, fr, (h.fs.keep g (lt_of_heap hg) (by simpa using h.gm)).trans hg⟩

theorem Bn.gl (h : Bn w0 C g m Bs Ms w) : g < w0.heap.size := by
  obtain ⟨T, fr, hg⟩ := h.data0
  exact lt_of_heap hg

theorem Bn.ne_g (h : Bn w0 C g m Bs Ms w) {b p : Nat} {F : List FD} (hb : Bs[b]? = some (p, F)) : p ≠ g := by
  have h1 := h.gl
  have h2 := h.gm
  rcases h.old b p F hb with rfl | h3
  · exact fun e => h2 e.symm
  · omega

theorem Bn.lt (h : Bn w0 C g m Bs Ms w) {b p : Nat} {F : List FD} (hb : Bs[b]? = some (p, F)) : p < w.heap.size := by
  obtain ⟨D, T, hh, _⟩ := h.blk b p F hb
  exact lt_of_heap hh

theorem Bn.frozen (h : Bn w0 C g m Bs Ms w) {b p : Nat} {F : List FD} (hb : Bs[b]? = some (p, F)) (i : Nat) : w.frozen? ⟨p, i, none⟩ = false := by
  obtain ⟨D, T, hh, _⟩ := h.blk b p F hb
  exact frozen_of_heap hh

/-- A world that has grown, or drawn, alone. -/
theorem Bn.keep (h : Bn w0 C g m Bs Ms w) (hf : Fs [] w w') : Bn w0 C g m Bs Ms w' := by
  have hc : ∀ {b p : Nat} {F : List FD} (i : Nat), Bs[b]? = some (p, F) → w'.cell? ⟨p, i, none⟩ = w.cell? ⟨p, i, none⟩ := fun i hb =>
    World.cell?_of_block (hf.keep _ (h.lt hb) (by simp))
  refine ⟨h.fs.trans (hf.mono (by simp)), h.gm, h.data0, h.nodup, h.old, ?_, ?_, ?_, ?_, ?_⟩
  · intro b p F hb
    obtain ⟨D, T, hh, hs⟩ := h.blk b p F hb
    exact ⟨D, T, (hf.keep p (lt_of_heap hh) (by simp)).trans hh, hs⟩
  · intro b p F i fd hb hi
    obtain ⟨v, hv, hr⟩ := h.rel b p F i fd hb hi
    exact ⟨v, (hc i hb).trans hv, hr.kept fun ho k hk => hf.keep k (hr.lt ho k hk).2 (by simp)⟩
  · intro b p F i fd v k hb hi ho hv
    rw [hc i hb] at hv
    exact h.off b p F i fd v k hb hi ho hv
  · intro b p F i fd v c q G j fd' v' k hb hi ho hv hb' hj ho' hv'
    rw [hc i hb] at hv
    rw [hc j hb'] at hv'
    exact h.apart b p F i fd v c q G j fd' v' k hb hi ho hv hb' hj ho' hv'
  · intro b seen e
    exact ⟨(h.maps b seen e).1.fs hf (by simp), (h.maps b seen e).2⟩

theorem Bn.push (h : Bn w0 C g m Bs Ms w) (o : Obj) : Bn w0 C g m Bs Ms (w.alloc o) := h.keep ((Fs.refl [] w).push o)
theorem Bn.drew (h : Bn w0 C g m Bs Ms w) : Bn w0 C g m Bs Ms w.drew := h.keep (Fs.refl [] w).drew

theorem set_pair {b c p q : Nat} {F G F' : List FD} (hb : Bs[b]? = some (p, F)) (hc : (Bs.set b (p, F'))[c]? = some (q, G)) : (c = b ∧ q = p ∧ G = F') ∨ (c ≠ b ∧ Bs[c]? = some (q, G)) := by
  rw [List.getElem?_set] at hc
  by_cases e : b = c
  · subst e
    rw [if_pos rfl] at hc
    split at hc
    · simp only [Option.some.injEq, Prod.mk.injEq] at hc
      exact .inl ⟨rfl, hc.1.symm, hc.2.symm⟩
    · cases hc
  · rw [if_neg e] at hc
    exact .inr ⟨fun e' => e e'.symm, hc⟩

theorem set_field {F : List FD} {i j : Nat} {fd x : FD} (hj : (F.set i fd)[j]? = some x) : (j = i ∧ x = fd) ∨ (j ≠ i ∧ F[j]? = some x) := by
  rw [List.getElem?_set] at hj
  by_cases e : i = j
  · subst e
    rw [if_pos rfl] at hj
    split at hj
    · simp only [Option.some.injEq] at hj
      exact .inl ⟨rfl, hj.symm⟩
    · cases hj
  · rw [if_neg e] at hj
    exact .inr ⟨fun e' => e e'.symm, hj⟩

theorem cell_other_off {w : World} {p q i j : Nat} {v : Value} (h : p ≠ q ∨ i ≠ j) : (w.setCell ⟨p, i, none⟩ v).cell? ⟨q, j, none⟩ = w.cell? ⟨q, j, none⟩ := by
  refine World.cell?_setCell_other w ⟨p, i, none⟩ ⟨q, j, none⟩ v ?_
  simp only [ne_eq, Addr.mk.injEq, and_true, not_and]
  rcases h with h | h
  · exact fun e => absurd e h
  · exact fun _ => h

/-- A store into a cell that is no row's: what it shows may be a row of its own if that is apart from all others. -/
theorem Bn.store (h : Bn w0 C g m Bs Ms w) {b p i : Nat} {F : List FD} {fo : FD} (hb : Bs[b]? = some (p, F)) (hi : F[i]? = some fo) (fd : FD) (v : Value) (hv : FRel w w0.heap.size C g fd v)
    (ho : fd.isOwn = true → ∀ k, v.ownBlock = some k → (∀ (c q : Nat) (G : List FD), Bs[c]? = some (q, G) → q ≠ k) ∧
      ∀ (c q : Nat) (G : List FD) (j : Nat) (fd' : FD) (v' : Value), Bs[c]? = some (q, G) → G[j]? = some fd' → fd'.isOwn = true → w.cell? ⟨q, j, none⟩ = some v' → v'.ownBlock = some k → c = b ∧ j = i) :
    Bn w0 C g m (Bs.set b (p, F.set i fd)) Ms (w.setCell ⟨p, i, none⟩ v) := by
  have hil : i < F.length := (List.getElem?_eq_some_iff.1 hi).1
  have hpo : ∀ {c q j : Nat} {G : List FD} {fd' : FD} {v' : Value} {k : Nat}, Bs[c]? = some (q, G) → G[j]? = some fd' → fd'.isOwn = true → w.cell? ⟨q, j, none⟩ = some v' → v'.ownBlock = some k → (w.setCell ⟨p, i, none⟩ v).heap[k]? = w.heap[k]? :=
    fun {c q j G fd' v' k} hc hj ho' hv' hk => Below.heap_setCell w _ _ k (fun e => h.off c q G j fd' v' k hc hj ho' hv' hk b p F hb e.symm)
  have hself : (w.setCell ⟨p, i, none⟩ v).cell? ⟨p, i, none⟩ = some v := by
    obtain ⟨u, hu, _⟩ := h.rel b p F i fo hb hi
    exact cell_same hu
  have old : ∀ {c q j : Nat} {G : List FD} {fd' : FD}, (Bs.set b (p, F.set i fd))[c]? = some (q, G) → G[j]? = some fd' →
      (c = b ∧ q = p ∧ j = i ∧ fd' = fd) ∨ (∃ G', Bs[c]? = some (q, G') ∧ G'[j]? = some fd' ∧ (p ≠ q ∨ i ≠ j) ∧ (c ≠ b ∨ j ≠ i)) := by
    intro c q j G fd' hc hj
    rcases set_pair hb hc with ⟨rfl, rfl, rfl⟩ | ⟨hne, hc'⟩
    · rcases set_field hj with ⟨rfl, rfl⟩ | ⟨hne, hj'⟩
      · exact .inl ⟨rfl, rfl, rfl, rfl⟩
      · exact .inr ⟨F, hb, hj', .inr (fun e => hne e.symm), .inr hne⟩
    · exact .inr ⟨G, hc', hj, .inl fun e => hne (h.nodup c b q G F hc' (e ▸ hb)), .inl hne⟩
  have pairs : ∀ {c q : Nat} {G : List FD}, (Bs.set b (p, F.set i fd))[c]? = some (q, G) → ∃ G', Bs[c]? = some (q, G') ∧ G.length = G'.length := by
    intro c q G hc
    rcases set_pair hb hc with ⟨rfl, rfl, rfl⟩ | ⟨_, hc'⟩
    · exact ⟨F, hb, by simp⟩
    · exact ⟨G, hc', rfl⟩
  refine ⟨⟨h.fs.os, h.fs.tape, h.fs.output, ?_, ?_⟩, h.gm, h.data0, ?_, ?_, ?_, ?_, ?_, ?_, ?_⟩
  · have := h.fs.size
    simp [World.setCell]; omega
  · intro k hk hn
    rw [Below.heap_setCell w _ _ k, h.fs.keep k hk hn]
    intro e0
    have e1 : k = p := e0
    subst e1
    rcases h.old b _ F hb with e | e
    · exact hn (by simpa using e)
    · omega
  · intro c d q G G' hc hd
    obtain ⟨G1, h1, _⟩ := pairs hc
    obtain ⟨G2, h2, _⟩ := pairs hd
    exact h.nodup c d q G1 G2 h1 h2
  · intro c q G hc
    obtain ⟨G1, h1, _⟩ := pairs hc
    exact h.old c q G1 h1
  · intro c q G hc
    obtain ⟨G1, h1, hl⟩ := pairs hc
    obtain ⟨D, T, hh, hs⟩ := h.blk c q G1 h1
    by_cases e : p = q
    · subst e
      exact ⟨_, T, heap_set_same hh, by simp [hs, hl]⟩
    · exact ⟨D, T, heap_past hh e, by rw [hs, hl]⟩
  · intro c q G j fd' hc hj
    rcases old hc hj with ⟨rfl, rfl, rfl, rfl⟩ | ⟨G', hc', hj', hne, _⟩
    · refine ⟨v, hself, hv.kept fun ho' k hk => Below.heap_setCell w _ _ k fun e => (ho ho' k hk).1 _ _ _ hb e.symm⟩
    · obtain ⟨u, hu, hr⟩ := h.rel c q G' j fd' hc' hj'
      exact ⟨u, (cell_other_off hne).trans hu, hr.kept fun ho' k hk => hpo hc' hj' ho' hu hk⟩
  · intro c q G j fd' u k hc hj ho' hu hk d r G2 hd
    obtain ⟨G3, hd', _⟩ := pairs hd
    rcases old hc hj with ⟨rfl, rfl, rfl, rfl⟩ | ⟨G', hc', hj', hne, _⟩
    · rw [hself] at hu
      cases hu
      exact (ho ho' k hk).1 d r G3 hd'
    · rw [cell_other_off hne] at hu
      exact h.off c q G' j fd' u k hc' hj' ho' hu hk d r G3 hd'
  · intro c q G j fd' u d r G2 j2 fd2 u2 k hc hj ho' hu hd hj2 ho2 hu2 hk hk2
    rcases old hc hj with ⟨rfl, rfl, rfl, rfl⟩ | ⟨G', hc', hj', hne, _⟩
    · rw [hself] at hu
      cases hu
      rcases old hd hj2 with ⟨rfl, rfl, rfl, rfl⟩ | ⟨G3, hd', hj2', hne2, _⟩
      · exact ⟨rfl, rfl⟩
      · rw [cell_other_off hne2] at hu2
        obtain ⟨e1, e2⟩ := (ho ho' k hk).2 d r G3 j2 fd2 u2 hd' hj2' ho2 hu2 hk2
        exact ⟨e1.symm, e2.symm⟩
    · rw [cell_other_off hne] at hu
      rcases old hd hj2 with ⟨rfl, rfl, rfl, rfl⟩ | ⟨G3, hd', hj2', hne2, _⟩
      · rw [hself] at hu2
        cases hu2
        exact (ho ho2 k hk2).2 c q G' j fd' u hc' hj' ho' hu hk
      · rw [cell_other_off hne2] at hu2
        exact h.apart c q G' j fd' u d r G3 j2 fd2 u2 k hc' hj' ho' hu hd' hj2' ho2 hu2 hk hk2
  · intro mb seen e
    obtain ⟨hs, hb0⟩ := h.maps mb seen e
    refine ⟨hs.fs (l := [p]) ((Fs.refl [p] w).set p i v (by simp)) ?_, hb0⟩
    obtain ⟨D, T, hh, _⟩ := h.blk b p F hb
    obtain ⟨es, kk, hm⟩ := hs.map
    intro hmem
    simp only [List.mem_singleton] at hmem
    rw [hmem, hh] at hm
    cases hm

/-- A store of what is no row. -/
theorem Bn.set (h : Bn w0 C g m Bs Ms w) {b p i : Nat} {F : List FD} {fo : FD} (hb : Bs[b]? = some (p, F)) (hi : F[i]? = some fo) (fd : FD) (v : Value) (hn : fd.isOwn = false) (hv : FRel w w0.heap.size C g fd v) :
    Bn w0 C g m (Bs.set b (p, F.set i fd)) Ms (w.setCell ⟨p, i, none⟩ v) :=
  h.store hb hi fd v hv fun ho => by rw [hn] at ho; cases ho

/-- A new block. -/
theorem Bn.add (h : Bn w0 C g m Bs Ms w) (D : Array Value) (T : TypeId) (F : List FD) (hs : D.size = F.length) (hr : ∀ (i : Nat) (fd : FD), F[i]? = some fd → fd.isOwn = false ∧ ∃ v, D[i]? = some v ∧ FRel w w0.heap.size C g fd v) :
    Bn w0 C g m (Bs ++ [(w.heap.size, F)]) Ms (w.alloc (.cells D T)) := by
  have hk := h.push (.cells D T)
  have hnew : (w.alloc (.cells D T)).heap[w.heap.size]? = some (.cells D T (0, 0)) := heap_alloc_new w _
  have cases_ : ∀ {c q : Nat} {G : List FD}, (Bs ++ [(w.heap.size, F)])[c]? = some (q, G) → Bs[c]? = some (q, G) ∨ (c = Bs.length ∧ q = w.heap.size ∧ G = F) := by
    intro c q G hc
    rcases Nat.lt_or_ge c Bs.length with hl | hl
    · rw [List.getElem?_append_left hl] at hc
      exact .inl hc
    · rw [List.getElem?_append_right hl] at hc
      by_cases e : c = Bs.length
      · subst e
        simp only [Nat.sub_self, List.getElem?_cons_zero, Option.some.injEq, Prod.mk.injEq] at hc
        exact .inr ⟨rfl, hc.1.symm, hc.2.symm⟩
      · rw [List.getElem?_eq_none (by simp; omega)] at hc
        cases hc
  have hne : ∀ {c q : Nat} {G : List FD}, Bs[c]? = some (q, G) → q ≠ w.heap.size := fun hc => by have := h.lt hc; omega
  have hlt : ∀ {c q : Nat} {G : List FD}, Bs[c]? = some (q, G) → c < Bs.length := fun hc => (List.getElem?_eq_some_iff.1 hc).1
  refine ⟨hk.fs, hk.gm, hk.data0, ?_, ?_, ?_, ?_, ?_, ?_, hk.maps⟩
  · intro c d q G G' hc hd
    rcases cases_ hc with hc1 | ⟨rfl, rfl, rfl⟩ <;> rcases cases_ hd with hd1 | ⟨rfl, hq, rfl⟩
    · exact h.nodup c d q G G' hc1 hd1
    · exact absurd hq (hne hc1)
    · exact absurd rfl (hne hd1)
    · rfl
  · intro c q G hc
    rcases cases_ hc with hc1 | ⟨rfl, rfl, rfl⟩
    · exact h.old c q G hc1
    · exact .inr h.fs.size
  · intro c q G hc
    rcases cases_ hc with hc1 | ⟨rfl, rfl, rfl⟩
    · exact hk.blk c q G hc1
    · exact ⟨D, T, hnew, hs⟩
  · intro c q G i fd hc hi
    rcases cases_ hc with hc1 | ⟨rfl, rfl, rfl⟩
    · exact hk.rel c q G i fd hc1 hi
    · obtain ⟨h1, v, h2, h3⟩ := hr i fd hi
      exact ⟨v, by rw [cell_of_heap hnew]; exact h2, h3.plain h1⟩
  · intro c q G i fd v k hc hi ho hv hk' d r G2 hd
    rcases cases_ hc with hc1 | ⟨rfl, rfl, rfl⟩
    · rcases cases_ hd with hd1 | ⟨rfl, rfl, rfl⟩
      · exact hk.off c q G i fd v k hc1 hi ho hv hk' d r G2 hd1
      · obtain ⟨u, hu, hru⟩ := h.rel c q G i fd hc1 hi
        have hv' : w.cell? ⟨q, i, none⟩ = some v := by rw [← hv]; exact (World.cell?_of_block (Below.heap_alloc w _ q (h.lt hc1))).symm
        rw [hu] at hv'
        cases hv'
        have := (hru.lt ho k hk').2
        omega
    · rw [(hr i fd hi).1] at ho
      cases ho
  · intro c q G i fd v d r G2 j fd' v' k hc hi ho hv hd hj ho' hv' hk1 hk2
    rcases cases_ hc with hc1 | ⟨rfl, rfl, rfl⟩
    · rcases cases_ hd with hd1 | ⟨rfl, rfl, rfl⟩
      · exact hk.apart c q G i fd v d r G2 j fd' v' k hc1 hi ho hv hd1 hj ho' hv' hk1 hk2
      · rw [(hr j fd' hj).1] at ho'
        cases ho'
    · rw [(hr i fd hi).1] at ho
      cases ho

/-- A new block of one cell. -/
theorem Bn.one (h : Bn w0 C g m Bs Ms w) (v : Value) (T : TypeId) (fd : FD) (hn : fd.isOwn = false) (hv : FRel w w0.heap.size C g fd v) : Bn w0 C g m (Bs ++ [(w.heap.size, [fd])]) Ms (w.alloc (.cells #[v] T)) :=
  h.add #[v] T [fd] rfl fun i x hi => by
    match i, hi with
    | 0, hi =>
      simp only [List.getElem?_cons_zero, Option.some.injEq] at hi
      subst hi
      exact ⟨hn, v, rfl, hv⟩

/-- Blocks that are no more looked at. -/
theorem Bn.take (h : Bn w0 C g m Bs Ms w) (n : Nat) : Bn w0 C g m (Bs.take n) Ms w := by
  have up : ∀ {c q : Nat} {G : List FD}, (Bs.take n)[c]? = some (q, G) → Bs[c]? = some (q, G) := by
    intro c q G hc
    rw [List.getElem?_take] at hc
    split at hc
    · exact hc
    · cases hc
  exact ⟨h.fs, h.gm, h.data0, fun b c p F G hb hc => h.nodup b c p F G (up hb) (up hc), fun b p F hb => h.old b p F (up hb), fun b p F hb => h.blk b p F (up hb), fun b p F i fd hb => h.rel b p F i fd (up hb),
    fun b p F i fd v k hb hi ho hv hk c q G hc => h.off b p F i fd v k (up hb) hi ho hv hk c q G (up hc),
    fun b p F i fd v c q G j fd' v' k hb hi ho hv hc => h.apart b p F i fd v c q G j fd' v' k (up hb) hi ho hv (up hc), h.maps⟩

/-- A cell that shows a row is looked at no more, or as less. -/
theorem Bn.weak (h : Bn w0 C g m Bs Ms w) {b p i : Nat} {F : List FD} {fo : FD} (hb : Bs[b]? = some (p, F)) (hi : F[i]? = some fo) (fd : FD) (hw : ∀ v, FRel w w0.heap.size C g fo v → FRel w w0.heap.size C g fd v) (hn : fd.isOwn = true → fo.isOwn = true) :
    Bn w0 C g m (Bs.set b (p, F.set i fd)) Ms w := by
  have old : ∀ {c q j : Nat} {G : List FD} {fd' : FD}, (Bs.set b (p, F.set i fd))[c]? = some (q, G) → G[j]? = some fd' → ∃ G' fo', Bs[c]? = some (q, G') ∧ G'[j]? = some fo' ∧ (∀ v, FRel w w0.heap.size C g fo' v → FRel w w0.heap.size C g fd' v) ∧ (fd'.isOwn = true → fo'.isOwn = true) := by
    intro c q j G fd' hc hj
    rcases set_pair hb hc with ⟨rfl, rfl, rfl⟩ | ⟨_, hc'⟩
    · rcases set_field hj with ⟨rfl, rfl⟩ | ⟨_, hj'⟩
      · exact ⟨F, fo, hb, hi, hw, hn⟩
      · exact ⟨F, fd', hb, hj', fun _ h => h, fun h => h⟩
    · exact ⟨G, fd', hc', hj, fun _ h => h, fun h => h⟩
  have pairs : ∀ {c q : Nat} {G : List FD}, (Bs.set b (p, F.set i fd))[c]? = some (q, G) → ∃ G', Bs[c]? = some (q, G') ∧ G.length = G'.length := by
    intro c q G hc
    rcases set_pair hb hc with ⟨rfl, rfl, rfl⟩ | ⟨_, hc'⟩
    · exact ⟨F, hb, by simp⟩
    · exact ⟨G, hc', rfl⟩
  refine ⟨h.fs, h.gm, h.data0, ?_, ?_, ?_, ?_, ?_, ?_, h.maps⟩
  · intro c d q G G' hc hd
    obtain ⟨G1, h1, _⟩ := pairs hc
    obtain ⟨G2, h2, _⟩ := pairs hd
    exact h.nodup c d q G1 G2 h1 h2
  · intro c q G hc
    obtain ⟨G1, h1, _⟩ := pairs hc
    exact h.old c q G1 h1
  · intro c q G hc
    obtain ⟨G1, h1, hl⟩ := pairs hc
    obtain ⟨D, T, hh, hs⟩ := h.blk c q G1 h1
    exact ⟨D, T, hh, by rw [hs, hl]⟩
  · intro c q G j fd' hc hj
    obtain ⟨G', fo', h1, h2, h3, _⟩ := old hc hj
    obtain ⟨v, hv, hr⟩ := h.rel c q G' j fo' h1 h2
    exact ⟨v, hv, h3 v hr⟩
  · intro c q G j fd' v k hc hj ho hv hk d r G2 hd
    obtain ⟨G', fo', h1, h2, _, h4⟩ := old hc hj
    obtain ⟨G3, h5, _⟩ := pairs hd
    exact h.off c q G' j fo' v k h1 h2 (h4 ho) hv hk d r G3 h5
  · intro c q G j fd' v d r G2 j2 fd2 v2 k hc hj ho hv hd hj2 ho2 hv2 hk hk2
    obtain ⟨G', fo', h1, h2, _, h4⟩ := old hc hj
    obtain ⟨G3, fo2, h5, h6, _, h8⟩ := old hd hj2
    exact h.apart c q G' j fo' v d r G3 j2 fo2 v2 k h1 h2 (h4 ho) hv h5 h6 (h8 ho2) hv2 hk hk2

end

end Go.Proofs.YtopcljikkdlffaaGreat
