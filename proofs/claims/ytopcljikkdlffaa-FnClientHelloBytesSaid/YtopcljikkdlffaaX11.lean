/- Bundles: rows that grow, the map of what was seen, and cryptobyte.String's readers. What package tls makes of the bytes of a ServerHello, in plain words on lists. No program and no memory stand here. No statement of the seat is proved here. -/
import Derived.Test.YtopcljikkdlffaaX10
import Derived.Test.YtopcljikkdlffaaX01
namespace Go.Proofs.Ytopcljikkdlffaa
open Go.RowKit

/-- An append to a row of one's own: the row stays where it was, or lies in a new block. -/
theorem append_sharp {P : Program} (w : World) (base : Nat) (t ty e : TypeId) (i : TypeInfo) (z : Value) (size bytes : Nat) (ht : P.underlying t = some (.slice e)) (hi : P.info? e = some i) (hz : i.zero = some z)
    (hsize : i.size = size) (hby : i.bytes = bytes) (hzs : z.cells.size = size) (hsz : 0 < size)
    (v : Value) (n : Nat) (xs : List Value) (hown : w.ownsRow base e size v n xs)
    (a : Addr) (m c : Nat) (news : List Value) (hl : news.length = m * size) (hnews : ∀ j u, news[j]? = some u → w.cell? (a.add j) = some u) (h1 : ∀ u ∈ news, u.oneCell' = true)
    (h63 : n + m ≤ maxLen) (hbytes : (n + m) * bytes ≤ 140737488355328) (hbase : base ≤ w.heap.size) :
    ∃ v' w', (Builtin.append_ #[t, t] ty #[v, .slice (some a) m c]).run P w = .ok v' w' ∧ w'.ownsRow base e size v' (n + m) (xs ++ news) ∧ w.grownBy w' v.ownBlock ∧
      (∀ k, v'.ownBlock = some k → v.ownBlock = some k ∨ w.heap.size ≤ k) := by
  rcases id hown.2 with ⟨rfl, rfl⟩ | ⟨g, cap, cur, rfl, hbg, hg, hnc, hcm, hcs, htake⟩
  · have hx : xs = [] := List.eq_nil_of_length_eq_zero (by simpa using hown.1)
    subst hx
    obtain ⟨v', w', hr, h2, h3, _⟩ := run_append_own (P := P) w w.heap.size t ty e i z size bytes ht hi hz hsize hby hzs hsz (.slice none 0 0) 0 [] (World.ownsRow_nil _ _ _ _) a m c news hl hnews h1 h63 hbytes (Nat.le_refl _)
    exact ⟨v', w', hr, ownsRow_mono h2 hbase, h3, fun k hk => .inr (h2.lt k hk).1⟩
  · obtain ⟨v', w', hr, h2, h3, _⟩ := run_append_own (P := P) w base t ty e i z size bytes ht hi hz hsize hby hzs hsz _ n xs hown a m c news hl hnews h1 h63 hbytes hbase
    refine ⟨v', w', hr, h2, h3, fun k hk => ?_⟩
    by_cases hroom : n + m ≤ cap
    · have hfit : n * i.size + news.length ≤ cur.size := by rw [hl, hcs, hsize, ← Nat.add_mul]; exact Nat.mul_le_mul_right _ hroom
      have hr2 := run_append_room (P := P) w t ty e i ht hi g n cap cur hg a m c news (by rw [hl, hsize]) hnews h1 hroom hfit
      rw [hr] at hr2
      simp only [Result.ok.injEq] at hr2
      rw [hr2.1] at hk
      exact .inl hk
    · have holds : ∀ j u, xs[j]? = some u → w.cell? ((⟨g, 0, none⟩ : Addr).add j) = some u := hown.cells (g := g) rfl
      have hmx : n + m ≤ 9223372036854775807 := by unfold maxLen at h63; omega
      have hr2 := run_append_grow (P := P) w t ty e i z ht hi hz ⟨g, 0, none⟩ n cap xs (by rw [hown.1, hsize]) holds a m c news (by rw [hl, hsize]) hnews (by omega) (by omega) (growslice_fits (by omega) (by rw [hby]; exact hbytes))
      rw [hr] at hr2
      simp only [Result.ok.injEq] at hr2
      rw [hr2.1] at hk
      simp only [Value.ownBlock, Option.some.injEq] at hk
      exact .inr (by omega)

section
variable {w0 w w' : World} {C : Array Value} {g m : Nat} {Bs : List (Nat × List FD)} {Ms : Option (Nat × List Nat)}

theorem Bn.at (h : Bn w0 C g m Bs Ms w) {b p i : Nat} {F : List FD} {fd : FD} (hb : Bs[b]? = some (p, F)) (hi : F[i]? = some fd) : ∃ v, w.cell? ⟨p, i, none⟩ = some v ∧ FRel w w0.heap.size C g fd v := h.rel b p F i fd hb hi

theorem Bn.val (h : Bn w0 C g m Bs Ms w) {b p i : Nat} {F : List FD} {v : Value} (hb : Bs[b]? = some (p, F)) (hi : F[i]? = some (.val v)) : w.cell? ⟨p, i, none⟩ = some v := by
  obtain ⟨u, hu, e⟩ := h.rel b p F i _ hb hi
  rw [hu]; exact congrArg some e

theorem Bn.vw (h : Bn w0 C g m Bs Ms w) {b p i : Nat} {F : List FD} {l : List UInt8} (hb : Bs[b]? = some (p, F)) (hi : F[i]? = some (.vw l)) : ∃ v, w.cell? ⟨p, i, none⟩ = some v ∧ View C g v l := h.rel b p F i _ hb hi

theorem Bn.vn (h : Bn w0 C g m Bs Ms w) {b p i : Nat} {F : List FD} {l : List UInt8} (hb : Bs[b]? = some (p, F)) (hi : F[i]? = some (.vn l)) : ∃ v, w.cell? ⟨p, i, none⟩ = some v ∧ VN C g v l := h.rel b p F i _ hb hi

theorem Bn.own (h : Bn w0 C g m Bs Ms w) {b p i e size n : Nat} {R : Value → List Value → Prop} {F : List FD} (hb : Bs[b]? = some (p, F)) (hi : F[i]? = some (.own e size n R)) : ∃ v us, w.cell? ⟨p, i, none⟩ = some v ∧ w.ownsRow w0.heap.size e size v n us ∧ R v us := by
  obtain ⟨v, hv, us, h1, h2⟩ := h.rel b p F i _ hb hi
  exact ⟨v, us, hv, h1, h2⟩

/-- Blocks that are looked at by none of the bundle have turned. -/
theorem Bn.other (h : Bn w0 C g m Bs Ms w) {l : List Nat} (hf : Fs l w w') (hl : ∀ k ∈ l, w0.heap.size ≤ k ∧ (∀ (c q : Nat) (G : List FD), Bs[c]? = some (q, G) → q ≠ k) ∧
      (∀ (c q : Nat) (G : List FD) (j : Nat) (fd : FD) (v : Value), Bs[c]? = some (q, G) → G[j]? = some fd → fd.isOwn = true → w.cell? ⟨q, j, none⟩ = some v → v.ownBlock ≠ some k) ∧ ∀ b seen, Ms = some (b, seen) → b ≠ k) : Bn w0 C g m Bs Ms w' := by
  have hb' : ∀ {b p : Nat} {F : List FD}, Bs[b]? = some (p, F) → w'.heap[p]? = w.heap[p]? := fun {b p F} hb =>
    hf.keep p (h.lt hb) fun hm => (hl p hm).2.1 b p F hb rfl
  have hc : ∀ {b p : Nat} {F : List FD} (i : Nat), Bs[b]? = some (p, F) → w'.cell? ⟨p, i, none⟩ = w.cell? ⟨p, i, none⟩ := fun i hb => World.cell?_of_block (hb' hb)
  refine ⟨⟨hf.os.trans h.fs.os, hf.tape.trans h.fs.tape, hf.output.trans h.fs.output, Nat.le_trans h.fs.size hf.size, ?_⟩, h.gm, h.data0, h.nodup, h.old, ?_, ?_, ?_, ?_, ?_⟩
  · intro k hk hn
    rw [hf.keep k (Nat.lt_of_lt_of_le hk h.fs.size) (fun hm => by have := (hl k hm).1; omega), h.fs.keep k hk hn]
  · intro b p F hb
    obtain ⟨D, T, hh, hs⟩ := h.blk b p F hb
    exact ⟨D, T, (hb' hb).trans hh, hs⟩
  · intro b p F i fd hb hi
    obtain ⟨v, hv, hr⟩ := h.rel b p F i fd hb hi
    exact ⟨v, (hc i hb).trans hv, hr.kept fun ho k hk => hf.keep k (hr.lt ho k hk).2 fun hm => (hl k hm).2.2.1 b p F i fd v hb hi ho hv hk⟩
  · intro b p F i fd v k hb hi ho hv
    rw [hc i hb] at hv
    exact h.off b p F i fd v k hb hi ho hv
  · intro b p F i fd v c q G j fd' v' k hb hi ho hv hb2 hj ho' hv'
    rw [hc i hb] at hv
    rw [hc j hb2] at hv'
    exact h.apart b p F i fd v c q G j fd' v' k hb hi ho hv hb2 hj ho' hv'
  · intro b seen e
    exact ⟨(h.maps b seen e).1.fs hf fun hm => (hl b hm).2.2.2 b seen e rfl, (h.maps b seen e).2⟩

/-- An append to a row in a cell, and the store of what comes of it. -/
theorem Bn.grow (h : Bn w0 C g m Bs Ms w) {b p i e size n : Nat} {R : Value → List Value → Prop} {F : List FD} (hb : Bs[b]? = some (p, F)) (hi : F[i]? = some (.own e size n R)) (t ty : TypeId) (ti : TypeInfo) (z : Value) (bytes : Nat)
    (ht : Try.prog.underlying t = some (.slice e)) (hti : Try.prog.info? e = some ti) (hz : ti.zero = some z) (hsize : ti.size = size) (hby : ti.bytes = bytes) (hzs : z.cells.size = size) (hsz : 0 < size)
    (a : Addr) (mm c : Nat) (news : List Value) (hl : news.length = mm * size) (hnews : ∀ j u, news[j]? = some u → w.cell? (a.add j) = some u) (h1 : ∀ u ∈ news, u.oneCell' = true)
    (h63 : n + mm ≤ maxLen) (hbytes : (n + mm) * bytes ≤ 140737488355328) :
    ∃ v us v' w', w.cell? ⟨p, i, none⟩ = some v ∧ (∃ ao cap, v = .slice ao n cap) ∧ (R v us ∧ us.length = n * size) ∧ (Builtin.append_ #[t, t] ty #[v, .slice (some a) mm c]).run Try.prog w = .ok v' w' ∧ w'.cell? ⟨p, i, none⟩ = some v ∧ w'.frozen? ⟨p, i, none⟩ = false ∧
      (∃ ao cap, v' = .slice ao (n + mm) cap) ∧ (∀ (c q : Nat) (G : List FD) (j : Nat), Bs[c]? = some (q, G) → w'.cell? ⟨q, j, none⟩ = w.cell? ⟨q, j, none⟩) ∧ ∀ (R' : Value → List Value → Prop) (n' : Nat), n' = n + mm → R' v' (us ++ news) → Bn w0 C g m (Bs.set b (p, F.set i (.own e size n' R'))) Ms (w'.setCell ⟨p, i, none⟩ v') := by
  obtain ⟨v, us, hv, hown, hR⟩ := h.own hb hi
  obtain ⟨v', w', hr, hown', hg, hsharp⟩ := append_sharp (P := Try.prog) w w0.heap.size t ty e ti z size bytes ht hti hz hsize hby hzs hsz v n us hown a mm c news hl hnews h1 h63 hbytes h.fs.size
  have hil : i < F.length := (List.getElem?_eq_some_iff.1 hi).1
  have hbl : b < Bs.length := (List.getElem?_eq_some_iff.1 hb).1
  have hw := h.weak hb hi .any (fun _ _ => trivial) (fun e => by cases e)
  have hb2 : (Bs.set b (p, F.set i FD.any))[b]? = some (p, F.set i FD.any) := by rw [List.getElem?_set_self hbl]
  have hi2 : (F.set i FD.any)[i]? = some FD.any := by rw [List.getElem?_set_self hil]
  have up : ∀ {c q : Nat} {G : List FD}, (Bs.set b (p, F.set i FD.any))[c]? = some (q, G) → ∃ G', Bs[c]? = some (q, G') ∧ ∀ (j : Nat) (fd : FD), G[j]? = some fd → fd.isOwn = true → G'[j]? = some fd ∧ (c ≠ b ∨ j ≠ i) := by
    intro c q G hc
    rcases set_pair hb hc with ⟨rfl, rfl, rfl⟩ | ⟨hne, hc'⟩
    · refine ⟨F, hb, fun j fd hj ho => ?_⟩
      rcases set_field hj with ⟨rfl, rfl⟩ | ⟨hne, hj'⟩
      · cases ho
      · exact ⟨hj', .inr hne⟩
    · exact ⟨G, hc', fun j fd hj _ => ⟨hj, .inl hne⟩⟩
  have hF : Fs (match v.ownBlock with | some k => [k] | none => []) w w' := ⟨hg.os, hg.tape, hg.output, hg.size, fun k hk hn => hg.block k hk fun e => hn (by rw [← e]; simp)⟩
  have h3 : Bn w0 C g m (Bs.set b (p, F.set i FD.any)) Ms w' := by
    refine hw.other hF fun k hk => ?_
    cases hob : v.ownBlock with
    | none => rw [hob] at hk; cases hk
    | some k0 =>
      rw [hob] at hk
      simp only [List.mem_singleton] at hk
      subst hk
      refine ⟨(hown.lt k hob).1, fun c q G hc => ?_, fun c q G j fd v2 hc hj ho hv2 e => ?_, fun mb seen e e2 => ?_⟩
      · obtain ⟨G', hc', _⟩ := up hc
        exact h.off b p F i _ v k hb hi rfl hv hob c q G' hc'
      · obtain ⟨G', hc', hx⟩ := up hc
        obtain ⟨hj', hne⟩ := hx j fd hj ho
        obtain ⟨e1, e3⟩ := h.apart b p F i _ v c q G' j fd v2 k hb hi rfl hv hc' hj' ho hv2 hob e
        rcases hne with hne | hne
        · exact hne e1.symm
        · exact hne e3.symm
      · subst e2
        obtain ⟨es, kk, hmm⟩ := (h.maps mb seen e).1.map
        rcases hown.2 with ⟨rfl, _⟩ | ⟨g', cap, cur, rfl, _, hh, _⟩
        · cases hob
        · simp only [Value.ownBlock, Option.some.injEq] at hob
          subst hob
          rw [hmm] at hh
          cases hh
  have hcell : ∀ {c q : Nat} {G : List FD} (j : Nat), Bs[c]? = some (q, G) → w'.cell? ⟨q, j, none⟩ = w.cell? ⟨q, j, none⟩ := fun {c q G} j hc =>
    World.cell?_of_block (hg.block q (h.lt hc) fun e => h.off b p F i _ v q hb hi rfl hv e.symm c q G hc rfl)
  refine ⟨v, us, v', w', hv, row_slice hown, ⟨hR, hown.1⟩, hr, (hcell i hb).trans hv, h3.frozen hb2 i, row_slice hown', fun c q G j hc => hcell j hc, fun R' n' hn' hR' => ?_⟩
  subst hn'
  have h4 := h3.store hb2 hi2 (.own e size (n + mm) R') v' ⟨us ++ news, hown', hR'⟩ fun _ k hk => ?_
  · rw [List.set_set, List.set_set] at h4
    exact h4
  · rcases hsharp k hk with hold | hnew
    · refine ⟨fun c q G hc => ?_, fun c q G j fd v2 hc hj ho hv2 e => ?_⟩
      · obtain ⟨G', hc', _⟩ := up hc
        exact h.off b p F i _ v k hb hi rfl hv hold c q G' hc'
      · obtain ⟨G', hc', hx⟩ := up hc
        obtain ⟨hj', hne⟩ := hx j fd hj ho
        rw [hcell j hc'] at hv2
        obtain ⟨e1, e3⟩ := h.apart b p F i _ v c q G' j fd v2 k hb hi rfl hv hc' hj' ho hv2 hold e
        exact ⟨e1.symm, e3.symm⟩
    · refine ⟨fun c q G hc e => ?_, fun c q G j fd v2 hc hj ho hv2 e => ?_⟩
      · obtain ⟨G', hc', _⟩ := up hc
        have := h.lt hc'
        omega
      · obtain ⟨G', hc', hx⟩ := up hc
        obtain ⟨hj', hne⟩ := hx j fd hj ho
        rw [hcell j hc'] at hv2
        obtain ⟨u, hu, hru⟩ := h.rel c q G' j fd hc' hj'
        rw [hv2] at hu
        cases hu
        have := (hru.lt ho k e).2
        omega

/-- At the beginning: one block, none of its cells shows a row. -/
theorem Bn.start {D : Array Value} {T Tg : TypeId} {fr : Nat × Nat} {F : List FD} (hfs : Fs [m] w0 w) (hgm : g ≠ m) (hg : w0.heap[g]? = some (.cells C Tg fr)) (hm : w.heap[m]? = some (.cells D T (0, 0))) (hs : D.size = F.length)
    (hr : ∀ (i : Nat) (fd : FD), F[i]? = some fd → ∃ v, D[i]? = some v ∧ FRel w w0.heap.size C g fd v ∧ (fd.isOwn = true → v.ownBlock = none)) : Bn w0 C g m [(m, F)] none w := by
  have one : ∀ {b p : Nat} {G : List FD}, [(m, F)][b]? = some (p, G) → b = 0 ∧ p = m ∧ G = F := by
    intro b p G h
    match b, h with
    | 0, h =>
      simp only [List.getElem?_cons_zero, Option.some.injEq, Prod.mk.injEq] at h
      exact ⟨rfl, h.1.symm, h.2.symm⟩
  refine ⟨hfs, hgm, ⟨_, _, hg⟩, ?_, ?_, ?_, ?_, ?_, ?_, fun _ _ e => by cases e⟩
  · intro b c p G G' hb hc
    rw [(one hb).1, (one hc).1]
  · intro b p G hb
    exact .inl (one hb).2.1
  · intro b p G hb
    obtain ⟨_, rfl, rfl⟩ := one hb
    exact ⟨D, T, hm, hs⟩
  · intro b p G i fd hb hi
    obtain ⟨_, rfl, rfl⟩ := one hb
    obtain ⟨v, h1, h2, _⟩ := hr i fd hi
    exact ⟨v, by rw [cell_of_heap hm]; exact h1, h2⟩
  · intro b p G i fd v k hb hi ho hv hk
    obtain ⟨_, rfl, rfl⟩ := one hb
    obtain ⟨u, h1, _, h3⟩ := hr i fd hi
    rw [cell_of_heap hm, h1] at hv
    cases hv
    rw [h3 ho] at hk
    cases hk
  · intro b p G i fd v c q G2 j fd' v' k hb hi ho hv hb2 hj ho' hv' hk
    obtain ⟨_, rfl, rfl⟩ := one hb
    obtain ⟨u, h1, _, h3⟩ := hr i fd hi
    rw [cell_of_heap hm, h1] at hv
    cases hv
    rw [h3 ho] at hk
    cases hk

/-- An append whose run is known. -/
theorem wp_append_run {P : Program} {o : Oper} {a : Act} {K : Act → World → Prop} {Q : Exit → Act → World → Prop} (s x : Operand) (t : TypeId)
    (ho : o.op = .call { callee := .builtin .append, args := #[s, x], argTypes := #[t, t] }) (v u : Value) {v' : Value} {w w' : World} (hs : a.eval s = v) (hx : a.eval x = u)
    (hr : (Builtin.append_ #[t, t] o.type #[v, u]).run P w = .ok v' w') (h : K (a.put o.dst v') w') : o.wp P a w K Q := by
  unfold Oper.wp execOp
  simp only [ho, resolve, invoke, builtin, Sem.run_bind, Sem.run_pure, Result.andThen_ok, List.map_toArray, List.map_cons, List.map_nil, hs, hx, hr]
  exact h

theorem Bn.len (h : Bn w0 C g m Bs Ms w) {b p : Nat} {l : List UInt8} {F : List FD} (hb : Bs[b]? = some (p, .vw l :: F)) : cellLen w p = l.length := by
  obtain ⟨v, hv, hV⟩ := h.vw (i := 0) hb rfl
  obtain ⟨off, cap, rfl, _⟩ := hV
  unfold cellLen
  rw [hv]

/-- A block by its number in a piece of code. -/
def pblk (n : Nat) : Code → Option Code
  | .block k c => if k = n then some (.block k c) else pblk n c
  | .seq a b => match pblk n a with
    | some c => some c
    | none => pblk n b
  | .cond _ a b => match pblk n a with
    | some c => some c
    | none => pblk n b
  | .loop c => pblk n c
  | .scope c => pblk n c
  | _ => none

/-- What the first loop of a piece of code goes round. -/
def ploop : Code → Option Code
  | .loop c => some c
  | .seq a b => match ploop a with
    | some c => some c
    | none => ploop b
  | .block _ c => ploop c
  | .scope c => ploop c
  | .cond _ a b => match ploop a with
    | some c => some c
    | none => ploop b
  | _ => none

theorem arr_of (n : Nat) (s : Array Value) (h : s.size = n) : ∃ z : Nat → Value, s = ((List.range n).map z).toArray := by
  refine ⟨fun i => s.getD i undef, Array.ext (by simp [h]) fun i h1 h2 => ?_⟩
  simp [h1]

/-- Slices over the data, or nil; a list of none of them is nil. -/
def ShowL (C : Array Value) (g : Nat) (L : List (List UInt8)) (v : Value) (us : List Value) : Prop := (L = [] → v = .slice none 0 0) ∧ ∀ (j : Nat) (s : List UInt8), L[j]? = some s → ∃ u, us[j]? = some u ∧ VN C g u s

theorem ShowL.nil {C : Array Value} {g : Nat} : ShowL C g [] (.slice none 0 0) [] := ⟨fun _ => rfl, fun j s h => by simp at h⟩

theorem ShowL.snoc {C : Array Value} {g : Nat} {L : List (List UInt8)} {v v' u : Value} {us : List Value} {s : List UInt8} (h : ShowL C g L v us) (hl : us.length = L.length) (hu : VN C g u s) : ShowL C g (L ++ [s]) v' (us ++ [u]) := by
  refine ⟨fun e => by simp at e, fun j x hj => ?_⟩
  rcases Nat.lt_or_ge j L.length with hlt | hge
  · rw [List.getElem?_append_left hlt] at hj
    obtain ⟨y, hy, hr⟩ := h.2 j x hj
    exact ⟨y, by rw [List.getElem?_append_left (by omega)]; exact hy, hr⟩
  · rw [List.getElem?_append_right hge] at hj
    have e : j = L.length := by
      by_cases e : j - L.length = 0
      · omega
      · rw [List.getElem?_eq_none (by simp; omega)] at hj; cases hj
    subst e
    simp only [Nat.sub_self, List.getElem?_cons_zero, Option.some.injEq] at hj
    subst hj
    exact ⟨u, by rw [← hl]; simp, hu⟩

/-- A number more was seen. -/
theorem Bn.seen {mb : Nat} {seen : List Nat} (h : Bn w0 C g m Bs (some (mb, seen)) w) (t : Nat) (ht : t < 65536) (hl : seen.length < 16777216) :
    ∃ w', (Instr.mapUpdate 163 (.map (some mb)) (.int .u16 (t : Int)) (.bool true)).run Try.prog w = .ok () w' ∧ Bn w0 C g m Bs (some (mb, t :: seen)) w' := by
  obtain ⟨hs, hb0⟩ := h.maps mb seen rfl
  obtain ⟨es, kk, hm⟩ := hs.map
  obtain ⟨w', hr, hs', hf⟩ := seen_put hs t ht hl
  have hN : Bn w0 C g m Bs none w := ⟨h.fs, h.gm, h.data0, h.nodup, h.old, h.blk, h.rel, h.off, h.apart, fun _ _ e => by cases e⟩
  have h2 : Bn w0 C g m Bs none w' := by
    refine hN.other hf fun k hk => ?_
    simp only [List.mem_singleton] at hk
    subst hk
    refine ⟨hb0, fun c q G hc e => ?_, fun c q G j fd v hc hj ho hv e => ?_, fun _ _ e => by cases e⟩
    · obtain ⟨D, T, hh, _⟩ := h.blk c q G hc
      rw [e, hm] at hh
      cases hh
    · obtain ⟨u, hu, hru⟩ := h.rel c q G j fd hc hj
      rw [hv] at hu
      cases hu
      obtain ⟨cs, e', fr, hh⟩ := hru.obj ho k e
      rw [hm] at hh
      cases hh
  exact ⟨w', hr, h2.fs, h2.gm, h2.data0, h2.nodup, h2.old, h2.blk, h2.rel, h2.off, h2.apart, fun b s e => by cases e; exact ⟨hs', hb0⟩⟩

/-- A map is made. -/
theorem Bn.map (h : Bn w0 C g m Bs none w) : Bn w0 C g m Bs (some (w.heap.size, [])) (w.alloc (.map #[] 0)) :=
  have h2 := h.push (.map #[] 0)
  ⟨h2.fs, h2.gm, h2.data0, h2.nodup, h2.old, h2.blk, h2.rel, h2.off, h2.apart, fun b s e => by cases e; exact ⟨seen_new w, h.fs.size⟩⟩

theorem Bn.noMap (h : Bn w0 C g m Bs Ms w) : Bn w0 C g m Bs none w := ⟨h.fs, h.gm, h.data0, h.nodup, h.old, h.blk, h.rel, h.off, h.apart, fun _ _ e => by cases e⟩

theorem Bn.ne (h : Bn w0 C g m Bs Ms w) {b c p q : Nat} {F G : List FD} (hb : Bs[b]? = some (p, F)) (hc : Bs[c]? = some (q, G)) (hbc : b ≠ c) : p ≠ q := fun e => hbc (h.nodup b c q F G (e ▸ hb) hc)

theorem br8 {b c p q i j : Nat} {F G : List FD} {fo : FD} {l x r : List UInt8} (h : Bn w0 C g m Bs Ms w) (hr : rdv 1 l = some (x, r)) (hb : Bs[b]? = some (p, F)) (hi : F[i]? = some (.vw l)) (hc : Bs[c]? = some (q, G)) (hj : G[j]? = some fo)
    (fd : FD) (hn : fd.isOwn = false) (hw : ∀ v, View C g v x → FRel w w0.heap.size C g fd v) (hbc : b ≠ c) :
    Calls Try.prog 101 #[.pointer (some ⟨p, i, none⟩), .pointer (some ⟨q, j, none⟩)] w fun e w' => e = .returned (.bool true) ∧ Bn w0 C g m ((Bs.set b (p, F.set i (.vw r))).set c (q, G.set j fd)) Ms w' := by
  obtain ⟨T, fr, hg⟩ := h.data
  obtain ⟨v, hv, hV⟩ := h.vw hb hi
  obtain ⟨vq, hq, _⟩ := h.at hc hj
  have hpq := h.ne hb hc hbc
  refine (r8_yes ⟨p, i, none⟩ ⟨q, j, none⟩ w hr hg hV hv (h.frozen hb i) hq (h.frozen hc j) (h.ne_g hb) (by simp [hpq])).mono ?_
  rintro e w1 ⟨v1, v2, rfl, hv1, hv2, rfl⟩
  exact ⟨rfl, (h.set hb hi (.vw r) v2 rfl hv2).set (by rw [List.getElem?_set_ne hbc]; exact hc) hj fd v1 hn ((hw v1 hv1).plain hn)⟩
theorem br8_no {b p i : Nat} {F : List FD} {l : List UInt8} (h : Bn w0 C g m Bs Ms w) (hr : rdv 1 l = none) (hb : Bs[b]? = some (p, F)) (hi : F[i]? = some (.vw l)) (qo : Option Addr) :
    Calls Try.prog 101 #[.pointer (some ⟨p, i, none⟩), .pointer qo] w fun e w' => e = .returned (.bool false) ∧ Fs [m] w0 w' := by
  obtain ⟨T, fr, hg⟩ := h.data
  obtain ⟨v, hv, hV⟩ := h.vw hb hi
  refine (r8_no ⟨p, i, none⟩ qo w hr hg hV hv (h.frozen hb i) (h.ne_g hb)).mono ?_
  rintro e w1 ⟨v2, rfl, rfl⟩
  exact ⟨rfl, (h.set hb hi .any v2 rfl trivial).fs⟩

theorem br16 {b c p q i j : Nat} {F G : List FD} {fo : FD} {l x r : List UInt8} (h : Bn w0 C g m Bs Ms w) (hr : rdv 2 l = some (x, r)) (hb : Bs[b]? = some (p, F)) (hi : F[i]? = some (.vw l)) (hc : Bs[c]? = some (q, G)) (hj : G[j]? = some fo)
    (fd : FD) (hn : fd.isOwn = false) (hw : ∀ v, View C g v x → FRel w w0.heap.size C g fd v) (hbc : b ≠ c) :
    Calls Try.prog 100 #[.pointer (some ⟨p, i, none⟩), .pointer (some ⟨q, j, none⟩)] w fun e w' => e = .returned (.bool true) ∧ Bn w0 C g m ((Bs.set b (p, F.set i (.vw r))).set c (q, G.set j fd)) Ms w' := by
  obtain ⟨T, fr, hg⟩ := h.data
  obtain ⟨v, hv, hV⟩ := h.vw hb hi
  obtain ⟨vq, hq, _⟩ := h.at hc hj
  have hpq := h.ne hb hc hbc
  refine (r16_yes ⟨p, i, none⟩ ⟨q, j, none⟩ w hr hg hV hv (h.frozen hb i) hq (h.frozen hc j) (h.ne_g hb) (by simp [hpq])).mono ?_
  rintro e w1 ⟨v1, v2, rfl, hv1, hv2, rfl⟩
  exact ⟨rfl, (h.set hb hi (.vw r) v2 rfl hv2).set (by rw [List.getElem?_set_ne hbc]; exact hc) hj fd v1 hn ((hw v1 hv1).plain hn)⟩
theorem br16_no {b p i : Nat} {F : List FD} {l : List UInt8} (h : Bn w0 C g m Bs Ms w) (hr : rdv 2 l = none) (hb : Bs[b]? = some (p, F)) (hi : F[i]? = some (.vw l)) (qo : Option Addr) :
    Calls Try.prog 100 #[.pointer (some ⟨p, i, none⟩), .pointer qo] w fun e w' => e = .returned (.bool false) ∧ Fs [m] w0 w' := by
  obtain ⟨T, fr, hg⟩ := h.data
  obtain ⟨v, hv, hV⟩ := h.vw hb hi
  refine (r16_no ⟨p, i, none⟩ qo w hr hg hV hv (h.frozen hb i) (h.ne_g hb)).mono ?_
  rintro e w1 ⟨v2, rfl, rfl⟩
  exact ⟨rfl, (h.set hb hi .any v2 rfl trivial).fs⟩

theorem br24 {b c p q i j : Nat} {F G : List FD} {fo : FD} {l x r : List UInt8} (h : Bn w0 C g m Bs Ms w) (hr : rdv 3 l = some (x, r)) (hb : Bs[b]? = some (p, F)) (hi : F[i]? = some (.vw l)) (hc : Bs[c]? = some (q, G)) (hj : G[j]? = some fo)
    (fd : FD) (hn : fd.isOwn = false) (hw : ∀ v, View C g v x → FRel w w0.heap.size C g fd v) (hbc : b ≠ c) :
    Calls Try.prog 142 #[.pointer (some ⟨p, i, none⟩), .pointer (some ⟨q, j, none⟩)] w fun e w' => e = .returned (.bool true) ∧ Bn w0 C g m ((Bs.set b (p, F.set i (.vw r))).set c (q, G.set j fd)) Ms w' := by
  obtain ⟨T, fr, hg⟩ := h.data
  obtain ⟨v, hv, hV⟩ := h.vw hb hi
  obtain ⟨vq, hq, _⟩ := h.at hc hj
  have hpq := h.ne hb hc hbc
  refine (r24_yes ⟨p, i, none⟩ ⟨q, j, none⟩ w hr hg hV hv (h.frozen hb i) hq (h.frozen hc j) (h.ne_g hb) (by simp [hpq])).mono ?_
  rintro e w1 ⟨v1, v2, rfl, hv1, hv2, rfl⟩
  exact ⟨rfl, (h.set hb hi (.vw r) v2 rfl hv2).set (by rw [List.getElem?_set_ne hbc]; exact hc) hj fd v1 hn ((hw v1 hv1).plain hn)⟩
theorem br24_no {b p i : Nat} {F : List FD} {l : List UInt8} (h : Bn w0 C g m Bs Ms w) (hr : rdv 3 l = none) (hb : Bs[b]? = some (p, F)) (hi : F[i]? = some (.vw l)) (qo : Option Addr) :
    Calls Try.prog 142 #[.pointer (some ⟨p, i, none⟩), .pointer qo] w fun e w' => e = .returned (.bool false) ∧ Fs [m] w0 w' := by
  obtain ⟨T, fr, hg⟩ := h.data
  obtain ⟨v, hv, hV⟩ := h.vw hb hi
  refine (r24_no ⟨p, i, none⟩ qo w hr hg hV hv (h.frozen hb i) (h.ne_g hb)).mono ?_
  rintro e w1 ⟨v2, rfl, rfl⟩
  exact ⟨rfl, (h.set hb hi .any v2 rfl trivial).fs⟩

theorem bt8 {b c p q i j : Nat} {F G : List FD} {fo : FD} {l x r : List UInt8} (h : Bn w0 C g m Bs Ms w) (hr : rdv 1 l = some (x, r)) (hb : Bs[b]? = some (p, F)) (hi : F[i]? = some (.vw l)) (hc : Bs[c]? = some (q, G)) (hj : G[j]? = some fo)
    (fd : FD) (hn : fd.isOwn = false) (hw : ∀ v, View C g v x → FRel w w0.heap.size C g fd v) (hbc : b ≠ c) :
    Calls Try.prog 97 #[.pointer (some ⟨p, i, none⟩), .pointer (some ⟨q, j, none⟩)] w fun e w' => e = .returned (.bool true) ∧ Bn w0 C g m ((Bs.set b (p, F.set i (.vw r))).set c (q, G.set j fd)) Ms w' := by
  obtain ⟨T, fr, hg⟩ := h.data
  obtain ⟨v, hv, hV⟩ := h.vw hb hi
  obtain ⟨vq, hq, _⟩ := h.at hc hj
  have hpq := h.ne hb hc hbc
  refine (t8_yes ⟨p, i, none⟩ ⟨q, j, none⟩ w hr hg hV hv (h.frozen hb i) hq (h.frozen hc j) (h.ne_g hb) (by simp [hpq])).mono ?_
  rintro e w1 ⟨v1, v2, rfl, hv1, hv2, rfl⟩
  exact ⟨rfl, (h.set hb hi (.vw r) v2 rfl hv2).set (by rw [List.getElem?_set_ne hbc]; exact hc) hj fd v1 hn ((hw v1 hv1).plain hn)⟩
theorem bt8_no {b p i : Nat} {F : List FD} {l : List UInt8} (h : Bn w0 C g m Bs Ms w) (hr : rdv 1 l = none) (hb : Bs[b]? = some (p, F)) (hi : F[i]? = some (.vw l)) (qo : Option Addr) :
    Calls Try.prog 97 #[.pointer (some ⟨p, i, none⟩), .pointer qo] w fun e w' => e = .returned (.bool false) ∧ Fs [m] w0 w' := by
  obtain ⟨T, fr, hg⟩ := h.data
  obtain ⟨v, hv, hV⟩ := h.vw hb hi
  refine (t8_no ⟨p, i, none⟩ qo w hr hg hV hv (h.frozen hb i) (h.ne_g hb)).mono ?_
  rintro e w1 ⟨v2, rfl, rfl⟩
  exact ⟨rfl, (h.set hb hi .any v2 rfl trivial).fs⟩

theorem bt16 {b c p q i j : Nat} {F G : List FD} {fo : FD} {l x r : List UInt8} (h : Bn w0 C g m Bs Ms w) (hr : rdv 2 l = some (x, r)) (hb : Bs[b]? = some (p, F)) (hi : F[i]? = some (.vw l)) (hc : Bs[c]? = some (q, G)) (hj : G[j]? = some fo)
    (fd : FD) (hn : fd.isOwn = false) (hw : ∀ v, View C g v x → FRel w w0.heap.size C g fd v) (hbc : b ≠ c) :
    Calls Try.prog 102 #[.pointer (some ⟨p, i, none⟩), .pointer (some ⟨q, j, none⟩)] w fun e w' => e = .returned (.bool true) ∧ Bn w0 C g m ((Bs.set b (p, F.set i (.vw r))).set c (q, G.set j fd)) Ms w' := by
  obtain ⟨T, fr, hg⟩ := h.data
  obtain ⟨v, hv, hV⟩ := h.vw hb hi
  obtain ⟨vq, hq, _⟩ := h.at hc hj
  have hpq := h.ne hb hc hbc
  refine (t16_yes ⟨p, i, none⟩ ⟨q, j, none⟩ w hr hg hV hv (h.frozen hb i) hq (h.frozen hc j) (h.ne_g hb) (by simp [hpq])).mono ?_
  rintro e w1 ⟨v1, v2, rfl, hv1, hv2, rfl⟩
  exact ⟨rfl, (h.set hb hi (.vw r) v2 rfl hv2).set (by rw [List.getElem?_set_ne hbc]; exact hc) hj fd v1 hn ((hw v1 hv1).plain hn)⟩
theorem bt16_no {b p i : Nat} {F : List FD} {l : List UInt8} (h : Bn w0 C g m Bs Ms w) (hr : rdv 2 l = none) (hb : Bs[b]? = some (p, F)) (hi : F[i]? = some (.vw l)) (qo : Option Addr) :
    Calls Try.prog 102 #[.pointer (some ⟨p, i, none⟩), .pointer qo] w fun e w' => e = .returned (.bool false) ∧ Fs [m] w0 w' := by
  obtain ⟨T, fr, hg⟩ := h.data
  obtain ⟨v, hv, hV⟩ := h.vw hb hi
  refine (t16_no ⟨p, i, none⟩ qo w hr hg hV hv (h.frozen hb i) (h.ne_g hb)).mono ?_
  rintro e w1 ⟨v2, rfl, rfl⟩
  exact ⟨rfl, (h.set hb hi .any v2 rfl trivial).fs⟩

theorem bt24 {b c p q i j : Nat} {F G : List FD} {fo : FD} {l x r : List UInt8} (h : Bn w0 C g m Bs Ms w) (hr : rdv 3 l = some (x, r)) (hb : Bs[b]? = some (p, F)) (hi : F[i]? = some (.vw l)) (hc : Bs[c]? = some (q, G)) (hj : G[j]? = some fo)
    (fd : FD) (hn : fd.isOwn = false) (hw : ∀ v, View C g v x → FRel w w0.heap.size C g fd v) (hbc : b ≠ c) :
    Calls Try.prog 143 #[.pointer (some ⟨p, i, none⟩), .pointer (some ⟨q, j, none⟩)] w fun e w' => e = .returned (.bool true) ∧ Bn w0 C g m ((Bs.set b (p, F.set i (.vw r))).set c (q, G.set j fd)) Ms w' := by
  obtain ⟨T, fr, hg⟩ := h.data
  obtain ⟨v, hv, hV⟩ := h.vw hb hi
  obtain ⟨vq, hq, _⟩ := h.at hc hj
  have hpq := h.ne hb hc hbc
  refine (t24_yes ⟨p, i, none⟩ ⟨q, j, none⟩ w hr hg hV hv (h.frozen hb i) hq (h.frozen hc j) (h.ne_g hb) (by simp [hpq])).mono ?_
  rintro e w1 ⟨v1, v2, rfl, hv1, hv2, rfl⟩
  exact ⟨rfl, (h.set hb hi (.vw r) v2 rfl hv2).set (by rw [List.getElem?_set_ne hbc]; exact hc) hj fd v1 hn ((hw v1 hv1).plain hn)⟩
theorem bt24_no {b p i : Nat} {F : List FD} {l : List UInt8} (h : Bn w0 C g m Bs Ms w) (hr : rdv 3 l = none) (hb : Bs[b]? = some (p, F)) (hi : F[i]? = some (.vw l)) (qo : Option Addr) :
    Calls Try.prog 143 #[.pointer (some ⟨p, i, none⟩), .pointer qo] w fun e w' => e = .returned (.bool false) ∧ Fs [m] w0 w' := by
  obtain ⟨T, fr, hg⟩ := h.data
  obtain ⟨v, hv, hV⟩ := h.vw hb hi
  refine (t24_no ⟨p, i, none⟩ qo w hr hg hV hv (h.frozen hb i) (h.ne_g hb)).mono ?_
  rintro e w1 ⟨v2, rfl, rfl⟩
  exact ⟨rfl, (h.set hb hi .any v2 rfl trivial).fs⟩

theorem bru8 {b c p q i j : Nat} {F G : List FD} {fo : FD} {l x r : List UInt8} (h : Bn w0 C g m Bs Ms w) (hr : rd 1 l = some (x, r)) (hb : Bs[b]? = some (p, F)) (hi : F[i]? = some (.vw l)) (hc : Bs[c]? = some (q, G)) (hj : G[j]? = some fo) (hbc : b ≠ c) :
    Calls Try.prog 98 #[.pointer (some ⟨p, i, none⟩), .pointer (some ⟨q, j, none⟩)] w fun e w' => e = .returned (.bool true) ∧ Bn w0 C g m ((Bs.set b (p, F.set i (.vw r))).set c (q, G.set j (.val (.int .u8 (be x : Nat))))) Ms w' := by
  obtain ⟨T, fr, hg⟩ := h.data
  obtain ⟨v, hv, hV⟩ := h.vw hb hi
  obtain ⟨vq, hq, _⟩ := h.at hc hj
  have hpq := h.ne hb hc hbc
  refine (ru8_yes ⟨p, i, none⟩ ⟨q, j, none⟩ w hr hg hV hv (h.frozen hb i) hq (h.frozen hc j) (h.ne_g hb) (by simp [hpq])).mono ?_
  rintro e w1 ⟨v2, rfl, hv2, rfl⟩
  exact ⟨rfl, ((h.set hb hi (.vw r) v2 rfl hv2).set (by rw [List.getElem?_set_ne hbc]; exact hc) hj (.val (.int .u8 (be x : Nat))) _ rfl rfl)⟩
theorem bru8_no {b p i : Nat} {F : List FD} {l : List UInt8} (h : Bn w0 C g m Bs Ms w) (hr : rd 1 l = none) (hb : Bs[b]? = some (p, F)) (hi : F[i]? = some (.vw l)) (qo : Option Addr) :
    Calls Try.prog 98 #[.pointer (some ⟨p, i, none⟩), .pointer qo] w fun e w' => e = .returned (.bool false) ∧ Fs [m] w0 w' := by
  obtain ⟨v, hv, hV⟩ := h.vw hb hi
  refine (ru8_no ⟨p, i, none⟩ qo w hr hV hv).mono ?_
  rintro e w1 ⟨rfl, rfl⟩
  exact ⟨rfl, h.fs⟩

theorem bru16 {b c p q i j : Nat} {F G : List FD} {fo : FD} {l x r : List UInt8} (h : Bn w0 C g m Bs Ms w) (hr : rd 2 l = some (x, r)) (hb : Bs[b]? = some (p, F)) (hi : F[i]? = some (.vw l)) (hc : Bs[c]? = some (q, G)) (hj : G[j]? = some fo) (hbc : b ≠ c) :
    Calls Try.prog 95 #[.pointer (some ⟨p, i, none⟩), .pointer (some ⟨q, j, none⟩)] w fun e w' => e = .returned (.bool true) ∧ Bn w0 C g m ((Bs.set b (p, F.set i (.vw r))).set c (q, G.set j (.val (.int .u16 (be x : Nat))))) Ms w' := by
  obtain ⟨T, fr, hg⟩ := h.data
  obtain ⟨v, hv, hV⟩ := h.vw hb hi
  obtain ⟨vq, hq, _⟩ := h.at hc hj
  have hpq := h.ne hb hc hbc
  refine (ru16_yes ⟨p, i, none⟩ ⟨q, j, none⟩ w hr hg hV hv (h.frozen hb i) hq (h.frozen hc j) (h.ne_g hb) (by simp [hpq])).mono ?_
  rintro e w1 ⟨v2, rfl, hv2, rfl⟩
  exact ⟨rfl, ((h.set hb hi (.vw r) v2 rfl hv2).set (by rw [List.getElem?_set_ne hbc]; exact hc) hj (.val (.int .u16 (be x : Nat))) _ rfl rfl).drew⟩
theorem bru16_no {b p i : Nat} {F : List FD} {l : List UInt8} (h : Bn w0 C g m Bs Ms w) (hr : rd 2 l = none) (hb : Bs[b]? = some (p, F)) (hi : F[i]? = some (.vw l)) (qo : Option Addr) :
    Calls Try.prog 95 #[.pointer (some ⟨p, i, none⟩), .pointer qo] w fun e w' => e = .returned (.bool false) ∧ Fs [m] w0 w' := by
  obtain ⟨v, hv, hV⟩ := h.vw hb hi
  refine (ru16_no ⟨p, i, none⟩ qo w hr hV hv).mono ?_
  rintro e w1 ⟨rfl, rfl⟩
  exact ⟨rfl, h.fs⟩

theorem bru32 {b c p q i j : Nat} {F G : List FD} {fo : FD} {l x r : List UInt8} (h : Bn w0 C g m Bs Ms w) (hr : rd 4 l = some (x, r)) (hb : Bs[b]? = some (p, F)) (hi : F[i]? = some (.vw l)) (hc : Bs[c]? = some (q, G)) (hj : G[j]? = some fo) (hbc : b ≠ c) :
    Calls Try.prog 112 #[.pointer (some ⟨p, i, none⟩), .pointer (some ⟨q, j, none⟩)] w fun e w' => e = .returned (.bool true) ∧ Bn w0 C g m ((Bs.set b (p, F.set i (.vw r))).set c (q, G.set j (.val (.int .u32 (be x : Nat))))) Ms w' := by
  obtain ⟨T, fr, hg⟩ := h.data
  obtain ⟨v, hv, hV⟩ := h.vw hb hi
  obtain ⟨vq, hq, _⟩ := h.at hc hj
  have hpq := h.ne hb hc hbc
  refine (ru32_yes ⟨p, i, none⟩ ⟨q, j, none⟩ w hr hg hV hv (h.frozen hb i) hq (h.frozen hc j) (h.ne_g hb) (by simp [hpq])).mono ?_
  rintro e w1 ⟨v2, rfl, hv2, rfl⟩
  exact ⟨rfl, ((h.set hb hi (.vw r) v2 rfl hv2).set (by rw [List.getElem?_set_ne hbc]; exact hc) hj (.val (.int .u32 (be x : Nat))) _ rfl rfl).drew⟩
theorem bru32_no {b p i : Nat} {F : List FD} {l : List UInt8} (h : Bn w0 C g m Bs Ms w) (hr : rd 4 l = none) (hb : Bs[b]? = some (p, F)) (hi : F[i]? = some (.vw l)) (qo : Option Addr) :
    Calls Try.prog 112 #[.pointer (some ⟨p, i, none⟩), .pointer qo] w fun e w' => e = .returned (.bool false) ∧ Fs [m] w0 w' := by
  obtain ⟨v, hv, hV⟩ := h.vw hb hi
  refine (ru32_no ⟨p, i, none⟩ qo w hr hV hv).mono ?_
  rintro e w1 ⟨rfl, rfl⟩
  exact ⟨rfl, h.fs⟩

theorem brb {b c p q i j : Nat} {F G : List FD} {fo : FD} {l x r : List UInt8} (n : Int) (h : Bn w0 C g m Bs Ms w) (hn0 : 0 ≤ n) (hr : rd n.toNat l = some (x, r)) (hb : Bs[b]? = some (p, F)) (hi : F[i]? = some (.vw l)) (hc : Bs[c]? = some (q, G)) (hj : G[j]? = some fo)
    (fd : FD) (hn : fd.isOwn = false) (hw : ∀ v, View C g v x → FRel w w0.heap.size C g fd v) (hbc : b ≠ c) :
    Calls Try.prog 96 #[.pointer (some ⟨p, i, none⟩), .pointer (some ⟨q, j, none⟩), .int .i64 n] w fun e w' => e = .returned (.bool true) ∧ Bn w0 C g m ((Bs.set b (p, F.set i (.vw r))).set c (q, G.set j fd)) Ms w' := by
  obtain ⟨v, hv, hV⟩ := h.vw hb hi
  obtain ⟨vq, hq, _⟩ := h.at hc hj
  have hpq := h.ne hb hc hbc
  refine (rb_yes ⟨p, i, none⟩ ⟨q, j, none⟩ n w hn0 hr hV hv (h.frozen hb i) hq (h.frozen hc j) (by simp [hpq])).mono ?_
  rintro e w1 ⟨v1, v2, rfl, hv1, hv2, rfl⟩
  exact ⟨rfl, (h.set hb hi (.vw r) v2 rfl hv2).set (by rw [List.getElem?_set_ne hbc]; exact hc) hj fd v1 hn ((hw v1 hv1).plain hn)⟩
theorem brb_no {b p i : Nat} {F : List FD} {l : List UInt8} (n : Int) (h : Bn w0 C g m Bs Ms w) (hn0 : 0 ≤ n) (hr : rd n.toNat l = none) (hb : Bs[b]? = some (p, F)) (hi : F[i]? = some (.vw l)) (qo : Option Addr) :
    Calls Try.prog 96 #[.pointer (some ⟨p, i, none⟩), .pointer qo, .int .i64 n] w fun e w' => e = .returned (.bool false) ∧ Fs [m] w0 w' := by
  obtain ⟨v, hv, hV⟩ := h.vw hb hi
  refine (rb_no ⟨p, i, none⟩ qo n w hn0 hr hV hv).mono ?_
  rintro e w1 ⟨rfl, rfl⟩
  exact ⟨rfl, h.fs⟩

theorem bskip {b p i : Nat} {F : List FD} {l x r : List UInt8} (n : Int) (h : Bn w0 C g m Bs Ms w) (hn0 : 0 ≤ n) (hr : rd n.toNat l = some (x, r)) (hb : Bs[b]? = some (p, F)) (hi : F[i]? = some (.vw l)) :
    Calls Try.prog 94 #[.pointer (some ⟨p, i, none⟩), .int .i64 n] w fun e w' => e = .returned (.bool true) ∧ Bn w0 C g m (Bs.set b (p, F.set i (.vw r))) Ms w' := by
  obtain ⟨v, hv, hV⟩ := h.vw hb hi
  refine (skip_yes ⟨p, i, none⟩ n w hn0 hr hV hv (h.frozen hb i)).mono ?_
  rintro e w1 ⟨v2, rfl, hv2, rfl⟩
  exact ⟨rfl, h.set hb hi (.vw r) v2 rfl hv2⟩
theorem bskip_no {b p i : Nat} {F : List FD} {l : List UInt8} (n : Int) (h : Bn w0 C g m Bs Ms w) (hn0 : 0 ≤ n) (hr : (l.length : Int) < n) (hb : Bs[b]? = some (p, F)) (hi : F[i]? = some (.vw l)) :
    Calls Try.prog 94 #[.pointer (some ⟨p, i, none⟩), .int .i64 n] w fun e w' => e = .returned (.bool false) ∧ Fs [m] w0 w' := by
  obtain ⟨v, hv, hV⟩ := h.vw hb hi
  obtain ⟨off, cap, rfl, hl⟩ := hV.slice
  refine (skip_no ⟨p, i, none⟩ n w hn0 hr hl hv).mono ?_
  rintro e w1 ⟨rfl, rfl⟩
  exact ⟨rfl, h.fs⟩

end

end Go.Proofs.Ytopcljikkdlffaa
namespace Go.Proofs.Ytopcljikkdlffaa

/-- The fields of a ServerHello. -/
structure SH where
  vers : Nat := 0
  random : List UInt8 := []
  session : List UInt8 := []
  cipher : Nat := 0
  comp : Nat := 0
  ocsp : Bool := false
  ticket : Bool := false
  srs : Bool := false
  sr : List UInt8 := []
  ems : Bool := false
  alpn : List UInt8 := []
  scts : List (List UInt8) := []
  sver : Nat := 0
  sgroup : Nat := 0
  sdata : List UInt8 := []
  sip : Bool := false
  sid : Nat := 0
  pts : List UInt8 := []
  ech : List UInt8 := []
  sna : Bool := false
  cookie : List UInt8 := []
  selg : Nat := 0

/-- Vectors, none of them empty, until nothing is left. -/
def tvecs (k : Nat) : Nat → List UInt8 → Option (List (List UInt8))
  | 0, s => if s = [] then some [] else none
  | f + 1, s => if s = [] then some [] else
    match rdv k s with
    | none => none
    | some (x, r) => if x = [] then none else (tvecs k f r).map (x :: ·)

theorem tvecs_succ {k n : Nat} {s : List UInt8} (h : s ≠ []) : tvecs k (n + 1) s = (rdv k s).bind fun y => if y.1 = [] then none else (tvecs k n y.2).map (y.1 :: ·) := by
  show (if s = [] then _ else _) = _
  rw [if_neg h]
  cases rdv k s <;> rfl

/-- One extension: what becomes of the fields, and what is left of its bytes (nothing where its type is unknown). -/
def shExt (f : SH) (ty : Nat) (d : List UInt8) : Option (SH × List UInt8) :=
  if ty = 5 then some ({ f with ocsp := true }, d)
  else if ty = 35 then some ({ f with ticket := true }, d)
  else if ty = 65281 then (rdv 1 d).map fun x => ({ f with sr := x.1, srs := true }, x.2)
  else if ty = 23 then some ({ f with ems := true }, d)
  else if ty = 16 then (rdv 2 d).bind fun l => if l.1 = [] then none else (rdv 1 l.1).bind fun x => if x.1 = [] ∨ x.2 ≠ [] then none else some ({ f with alpn := x.1 }, l.2)
  else if ty = 18 then (rdv 2 d).bind fun l => if l.1 = [] then none else (tvecs 2 l.1.length l.1).map fun x => ({ f with scts := f.scts ++ x }, l.2)
  else if ty = 43 then (rd 2 d).map fun x => ({ f with sver := be x.1 }, x.2)
  else if ty = 44 then (rdv 2 d).bind fun x => if x.1 = [] then none else some ({ f with cookie := x.1 }, x.2)
  else if ty = 51 then
    if d.length = 2 then (rd 2 d).map fun x => ({ f with selg := be x.1 }, x.2)
    else (rd 2 d).bind fun x => (rdv 2 x.2).map fun y => ({ f with sgroup := be x.1, sdata := y.1 }, y.2)
  else if ty = 41 then (rd 2 d).map fun x => ({ f with sip := true, sid := be x.1 }, x.2)
  else if ty = 11 then (rdv 1 d).bind fun x => if x.1 = [] then none else some ({ f with pts := x.1 }, x.2)
  else if ty = 65037 then some ({ f with ech := d }, [])
  else if ty = 0 then if d = [] then some ({ f with sna := true }, []) else none
  else some (f, [])

/-- Extensions until nothing is left. -/
def shExts : Nat → List Nat → SH → List UInt8 → Option SH
  | 0, _, f, s => if s = [] then some f else none
  | n + 1, seen, f, s => if s = [] then some f else
    (rd 2 s).bind fun t => (rdv 2 t.2).bind fun d => if be t.1 ∈ seen then none else
      (shExt f (be t.1) d.1).bind fun y => if y.2 = [] then shExts n (be t.1 :: seen) y.1 d.2 else none

/-- The head of a ServerHello, and what is left behind it. -/
def shHead (bs : List UInt8) : Option (SH × List UInt8) :=
  (rd 4 bs).bind fun h => (rd 2 h.2).bind fun v => (rd 32 v.2).bind fun r => (rdv 1 r.2).bind fun s => (rd 2 s.2).bind fun c => (rd 1 c.2).map fun k =>
    ({ vers := be v.1, random := r.1, session := s.1, cipher := be c.1, comp := be k.1 }, k.2)

/-- A ServerHello. -/
def shRead (bs : List UInt8) : Option SH :=
  (shHead bs).bind fun h => if h.2 = [] then some h.1 else
    (rdv 2 h.2).bind fun e => if e.2 = [] then shExts e.1.length [] h.1 e.1 else none

end Go.Proofs.Ytopcljikkdlffaa
