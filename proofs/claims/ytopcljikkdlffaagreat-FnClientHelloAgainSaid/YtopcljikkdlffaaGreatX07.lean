/- Bundles: rows that grow, the map of what was seen, and cryptobyte.String's readers. What package tls makes of the bytes of a ServerHello, in plain words on lists. No program and no memory stand here. The reference's reader: the head of a message. The reference's reader: extensions (pure part). The reference's reader: extensions (walk). The reference's reader: one extension of a ServerHello. General words on structs that are handed about by value. The reference reads a ServerHello: what is found. No statement of the seat is proved here. -/
import Derived.Test.YtopcljikkdlffaaGreatX06
import Derived.Test.YtopcljikkdlffaaGreatX01
import Derived.Test.YtopcljikkdlffaaGreatX05
import Derived.Laws.Rows
import Derived.Laws.Tables
import Derived.Laws.ResultCell
import Derived.Deep.WholeRow
import Derived.Deep.DeepCutAuto
namespace Go.Proofs.YtopcljikkdlffaaGreat
open Go.RowKit

/-- An append to a row of one's own: the row stays where it was, or lies in a new block. -/
theorem append_sharp {P : Program} (w : World) (base : Nat) (t ty e : TypeId) (i : TypeInfo) (z : Value) (size bytes : Nat) (ht : P.underlying t = some (.slice e)) (hi : P.info? e = some i) (hz : i.zero = some z)
    (hsize : i.size = size) (hby : i.bytes = bytes) (hzs : z.cells.size = size) (hsz : 0 < size)
    (v : Value) (n : Nat) (xs : List Value) (hown : w.ownsRow base e size v n xs)
    (a : Addr) (m c : Nat) (news : List Value) (hl : news.length = m * size) (hnews : ∀ j u, news[j]? = some u → w.cell? (a.add j) = some u) (h1 : ∀ u ∈ news, u.oneCell' = true)
    (h63 : n + m ≤ maxLen) (hbytes : (n + m) * bytes ≤ 140737488355328) (hbase : base ≤ w.heap.size) :
    ∃ v' w', (Builtin.append_ #[t, t] ty #[v, .slice (some a) m c]).run P w = .ok v' w' ∧ w'.ownsRow base e size v' (n + m) (xs ++ news) ∧ w.grownBy w' v.ownBlock ∧
      (∀ k, v'.ownBlock = some k → v.ownBlock = some k ∨ w.heap.size ≤ k) := by
  rcases id hown.2 with ⟨rfl, rfl⟩ | ⟨g, cap, cur, rfl, hbg, hg, hnc, hcm, hcs, htake⟩
  · have hx : xs = [] := List.eq_nil_of_length_eq_zero (by simpa using hown.1)
    subst hx
    obtain ⟨v', w', hr, h2, h3, _⟩ := run_append_own (P := P) w w.heap.size t ty e i z size bytes ht hi hz hsize hby hzs hsz (.slice none 0 0) 0 [] (World.ownsRow_nil _ _ _ _) a m c news hl hnews h1 h63 hbytes (Nat.le_refl _)
    exact ⟨v', w', hr, ownsRow_mono h2 hbase, h3, fun k hk => .inr (h2.lt k hk).1⟩
  · obtain ⟨v', w', hr, h2, h3, _⟩ := run_append_own (P := P) w base t ty e i z size bytes ht hi hz hsize hby hzs hsz _ n xs hown a m c news hl hnews h1 h63 hbytes hbase
    refine ⟨v', w', hr, h2, h3, fun k hk => ?_⟩
    by_cases hroom : n + m ≤ cap
    · have hfit : n * i.size + news.length ≤ cur.size := by rw [hl, hcs, hsize, ← Nat.add_mul]; exact Nat.mul_le_mul_right _ hroom
      have hr2 := run_append_room (P := P) w t ty e i ht hi g n cap cur hg a m c news (by rw [hl, hsize]) hnews h1 hroom hfit
      rw [hr] at hr2
      simp only [Result.ok.injEq] at hr2
      rw [hr2.1] at hk
      exact .inl hk
    · have holds : ∀ j u, xs[j]? = some u → w.cell? ((⟨g, 0, none⟩ : Addr).add j) = some u := hown.cells (g := g) rfl
      have hmx : n + m ≤ 9223372036854775807 := by unfold maxLen at h63; omega
      have hr2 := run_append_grow (P := P) w t ty e i z ht hi hz ⟨g, 0, none⟩ n cap xs (by rw [hown.1, hsize]) holds a m c news (by rw [hl, hsize]) hnews (by omega) (by omega) (growslice_fits (by omega) (by rw [hby]; exact hbytes))
      rw [hr] at hr2
      simp only [Result.ok.injEq] at hr2
      rw [hr2.1] at hk
      simp only [Value.ownBlock, Option.some.injEq] at hk
      exact .inr (by omega)

section
variable {w0 w w' : World} {C : Array Value} {g m : Nat} {Bs : List (Nat × List FD)} {Ms : Option (Nat × List Nat)}

theorem Bn.at (h : Bn w0 C g m Bs Ms w) {b p i : Nat} {F : List FD} {fd : FD} (hb : Bs[b]? = some (p, F)) (hi : F[i]? = some fd) : ∃ v, w.cell? ⟨p, i, none⟩ = some v ∧ FRel w w0.heap.size C g fd v := h.rel b p F i fd hb hi

theorem Bn.val (h : Bn w0 C g m Bs Ms w) {b p i : Nat} {F : List FD} {v : Value} (hb : Bs[b]? = some (p, F)) (hi : F[i]? = some (.val v)) : w.cell? ⟨p, i, none⟩ = some v := by
  obtain ⟨u, hu, e⟩ := h.rel b p F i _ hb hi
  rw [hu]; exact congrArg some e

theorem Bn.vw (h : Bn w0 C g m Bs Ms w) {b p i : Nat} {F : List FD} {l : List UInt8} (hb : Bs[b]? = some (p, F)) (hi : F[i]? = some (.vw l)) : ∃ v, w.cell? ⟨p, i, none⟩ = some v ∧ View C g v l := h.rel b p F i _ hb hi

theorem Bn.vn (h : Bn w0 C g m Bs Ms w) {b p i : Nat} {F : List FD} {l : List UInt8} (hb : Bs[b]? = some (p, F)) (hi : F[i]? = some (.vn l)) : ∃ v, w.cell? ⟨p, i, none⟩ = some v ∧ VN C g v l := h.rel b p F i _ hb hi

theorem Bn.own (h : Bn w0 C g m Bs Ms w) {b p i e size n : Nat} {R : Value → List Value → Prop} {F : List FD} (hb : Bs[b]? = some (p, F)) (hi : F[i]? = some (.own e size n R)) : ∃ v us, w.cell? ⟨p, i, none⟩ = some v ∧ w.ownsRow w0.heap.size e size v n us ∧ R v us := by
  obtain ⟨v, hv, us, h1, h2⟩ := h.rel b p F i _ hb hi
  exact ⟨v, us, hv, h1, h2⟩

/-- Blocks that are looked at by none of the bundle have turned. -/
theorem Bn.other (h : Bn w0 C g m Bs Ms w) {l : List Nat} (hf : Fs l w w') (hl : ∀ k ∈ l, w0.heap.size ≤ k ∧ (∀ (c q : Nat) (G : List FD), Bs[c]? = some (q, G) → q ≠ k) ∧
      (∀ (c q : Nat) (G : List FD) (j : Nat) (fd : FD) (v : Value), Bs[c]? = some (q, G) → G[j]? = some fd → fd.isOwn = true → w.cell? ⟨q, j, none⟩ = some v → v.ownBlock ≠ some k) ∧ ∀ b seen, Ms = some (b, seen) → b ≠ k) : Bn w0 C g m Bs Ms w' := by
  have hb' : ∀ {b p : Nat} {F : List FD}, Bs[b]? = some (p, F) → w'.heap[p]? = w.heap[p]? := fun {b p F} hb =>
    hf.keep p (h.lt hb) fun hm => (hl p hm).2.1 b p F hb rfl
  have hc : ∀ {b p : Nat} {F : List FD} (i : Nat), Bs[b]? = some (p, F) → w'.cell? ⟨p, i, none⟩ = w.cell? ⟨p, i, none⟩ := fun i hb => World.cell?_of_block (hb' hb)
  refine ⟨⟨hf.os.trans h.fs.os, hf.tape.trans h.fs.tape, hf.output.trans h.fs.output, Nat.le_trans h.fs.size hf.size, ?_⟩, h.gm, h.data0, h.nodup, h.old, ?_, ?_, ?_, ?_, ?_⟩
  · intro k hk hn
    rw [hf.keep k (Nat.lt_of_lt_of_le hk h.fs.size) (fun hm => by have := (hl k hm).1; omega), h.fs.keep k hk hn]
  · intro b p F hb
    obtain ⟨D, T, hh, hs⟩ := h.blk b p F hb
    exact ⟨D, T, (hb' hb).trans hh, hs⟩
  · intro b p F i fd hb hi
    obtain ⟨v, hv, hr⟩ := h.rel b p F i fd hb hi
    exact ⟨v, (hc i hb).trans hv, hr.kept fun ho k hk => hf.keep k (hr.lt ho k hk).2 fun hm => (hl k hm).2.2.1 b p F i fd v hb hi ho hv hk⟩
  · intro b p F i fd v k hb hi ho hv
    rw [hc i hb] at hv
    exact h.off b p F i fd v k hb hi ho hv
  · intro b p F i fd v c q G j fd' v' k hb hi ho hv hb2 hj ho' hv'
    rw [hc i hb] at hv
    rw [hc j hb2] at hv'
    exact h.apart b p F i fd v c q G j fd' v' k hb hi ho hv hb2 hj ho' hv'
  · intro b seen e
    exact ⟨(h.maps b seen e).1.fs hf fun hm => (hl b hm).2.2.2 b seen e rfl, (h.maps b seen e).2⟩

/-- An append to a row in a cell, and the store of what comes of it. -/
theorem Bn.grow (h : Bn w0 C g m Bs Ms w) {b p i e size n : Nat} {R : Value → List Value → Prop} {F : List FD} (hb : Bs[b]? = some (p, F)) (hi : F[i]? = some (.own e size n R)) (t ty : TypeId) (ti : TypeInfo) (z : Value) (bytes : Nat)
    (ht : Tryz.prog.underlying t = some (.slice e)) (hti : Tryz.prog.info? e = some ti) (hz : ti.zero = some z) (hsize : ti.size = size) (hby : ti.bytes = bytes) (hzs : z.cells.size = size) (hsz : 0 < size)
    (a : Addr) (mm c : Nat) (news : List Value) (hl : news.length = mm * size) (hnews : ∀ j u, news[j]? = some u → w.cell? (a.add j) = some u) (h1 : ∀ u ∈ news, u.oneCell' = true)
    (h63 : n + mm ≤ maxLen) (hbytes : (n + mm) * bytes ≤ 140737488355328) :
    ∃ v us v' w', w.cell? ⟨p, i, none⟩ = some v ∧ (∃ ao cap, v = .slice ao n cap) ∧ (R v us ∧ us.length = n * size) ∧ (Builtin.append_ #[t, t] ty #[v, .slice (some a) mm c]).run Tryz.prog w = .ok v' w' ∧ w'.cell? ⟨p, i, none⟩ = some v ∧ w'.frozen? ⟨p, i, none⟩ = false ∧
      (∃ ao cap, v' = .slice ao (n + mm) cap) ∧ (∀ (c q : Nat) (G : List FD) (j : Nat), Bs[c]? = some (q, G) → w'.cell? ⟨q, j, none⟩ = w.cell? ⟨q, j, none⟩) ∧ ∀ (R' : Value → List Value → Prop) (n' : Nat), n' = n + mm → R' v' (us ++ news) → Bn w0 C g m (Bs.set b (p, F.set i (.own e size n' R'))) Ms (w'.setCell ⟨p, i, none⟩ v') := by
  obtain ⟨v, us, hv, hown, hR⟩ := h.own hb hi
  obtain ⟨v', w', hr, hown', hg, hsharp⟩ := append_sharp (P := Tryz.prog) w w0.heap.size t ty e ti z size bytes ht hti hz hsize hby hzs hsz v n us hown a mm c news hl hnews h1 h63 hbytes h.fs.size
  have hil : i < F.length := (List.getElem?_eq_some_iff.1 hi).1
  have hbl : b < Bs.length := (List.getElem?_eq_some_iff.1 hb).1
  have hw := h.weak hb hi .any (fun _ _ => trivial) (fun e => by cases e)
  have hb2 : (Bs.set b (p, F.set i FD.any))[b]? = some (p, F.set i FD.any) := by rw [List.getElem?_set_self hbl]
  have hi2 : (F.set i FD.any)[i]? = some FD.any := by rw [List.getElem?_set_self hil]
  have up : ∀ {c q : Nat} {G : List FD}, (Bs.set b (p, F.set i FD.any))[c]? = some (q, G) → ∃ G', Bs[c]? = some (q, G') ∧ ∀ (j : Nat) (fd : FD), G[j]? = some fd → fd.isOwn = true → G'[j]? = some fd ∧ (c ≠ b ∨ j ≠ i) := by
    intro c q G hc
    rcases set_pair hb hc with ⟨rfl, rfl, rfl⟩ | ⟨hne, hc'⟩
    · refine ⟨F, hb, fun j fd hj ho => ?_⟩
      rcases set_field hj with ⟨rfl, rfl⟩ | ⟨hne, hj'⟩
      · cases ho
      · exact ⟨hj', .inr hne⟩
    · exact ⟨G, hc', fun j fd hj _ => ⟨hj, .inl hne⟩⟩
  have hF : Fs (match v.ownBlock with | some k => [k] | none => []) w w' := ⟨hg.os, hg.tape, hg.output, hg.size, fun k hk hn => hg.block k hk fun e => hn (by rw [← e]; simp)⟩
  have h3 : Bn w0 C g m (Bs.set b (p, F.set i FD.any)) Ms w' := by
    refine hw.other hF fun k hk => ?_
    cases hob : v.ownBlock with
    | none => rw [hob] at hk; cases hk
    | some k0 =>
      rw [hob] at hk
      simp only [List.mem_singleton] at hk
      subst hk
      refine ⟨(hown.lt k hob).1, fun c q G hc => ?_, fun c q G j fd v2 hc hj ho hv2 e => ?_, fun mb seen e e2 => ?_⟩
      · obtain ⟨G', hc', _⟩ := up hc
        exact h.off b p F i _ v k hb hi rfl hv hob c q G' hc'
      · obtain ⟨G', hc', hx⟩ := up hc
        obtain ⟨hj', hne⟩ := hx j fd hj ho
        obtain ⟨e1, e3⟩ := h.apart b p F i _ v c q G' j fd v2 k hb hi rfl hv hc' hj' ho hv2 hob e
        rcases hne with hne | hne
        · exact hne e1.symm
        · exact hne e3.symm
      · subst e2
        obtain ⟨es, kk, hmm⟩ := (h.maps mb seen e).1.map
        rcases hown.2 with ⟨rfl, _⟩ | ⟨g', cap, cur, rfl, _, hh, _⟩
        · cases hob
        · simp only [Value.ownBlock, Option.some.injEq] at hob
          subst hob
          rw [hmm] at hh
          cases hh
  have hcell : ∀ {c q : Nat} {G : List FD} (j : Nat), Bs[c]? = some (q, G) → w'.cell? ⟨q, j, none⟩ = w.cell? ⟨q, j, none⟩ := fun {c q G} j hc =>
    World.cell?_of_block (hg.block q (h.lt hc) fun e => h.off b p F i _ v q hb hi rfl hv e.symm c q G hc rfl)
  refine ⟨v, us, v', w', hv, row_slice hown, ⟨hR, hown.1⟩, hr, (hcell i hb).trans hv, h3.frozen hb2 i, row_slice hown', fun c q G j hc => hcell j hc, fun R' n' hn' hR' => ?_⟩
  subst hn'
  have h4 := h3.store hb2 hi2 (.own e size (n + mm) R') v' ⟨us ++ news, hown', hR'⟩ fun _ k hk => ?_
  · rw [List.set_set, List.set_set] at h4
    exact h4
  · rcases hsharp k hk with hold | hnew
    · refine ⟨fun c q G hc => ?_, fun c q G j fd v2 hc hj ho hv2 e => ?_⟩
      · obtain ⟨G', hc', _⟩ := up hc
        exact h.off b p F i _ v k hb hi rfl hv hold c q G' hc'
      · obtain ⟨G', hc', hx⟩ := up hc
        obtain ⟨hj', hne⟩ := hx j fd hj ho
        rw [hcell j hc'] at hv2
        obtain ⟨e1, e3⟩ := h.apart b p F i _ v c q G' j fd v2 k hb hi rfl hv hc' hj' ho hv2 hold e
        exact ⟨e1.symm, e3.symm⟩
    · refine ⟨fun c q G hc e => ?_, fun c q G j fd v2 hc hj ho hv2 e => ?_⟩
      · obtain ⟨G', hc', _⟩ := up hc
        have := h.lt hc'
        omega
      · obtain ⟨G', hc', hx⟩ := up hc
        obtain ⟨hj', hne⟩ := hx j fd hj ho
        rw [hcell j hc'] at hv2
        obtain ⟨u, hu, hru⟩ := h.rel c q G' j fd hc' hj'
        rw [hv2] at hu
        cases hu
        have := (hru.lt ho k e).2
        omega

/-- At the beginning: one block, none of its cells shows a row. -/
theorem Bn.start {D : Array Value} {T Tg : TypeId} {fr : Nat × Nat} {F : List FD} (hfs : Fs [m] w0 w) (hgm : g ≠ m) (hg : w0.heap[g]? = some (.cells C Tg fr)) (hm : w.heap[m]? = some (.cells D T (0, 0))) (hs : D.size = F.length)
    (hr : ∀ (i : Nat) (fd : FD), F[i]? = some fd → ∃ v, D[i]? = some v ∧ FRel w w0.heap.size C g fd v ∧ (fd.isOwn = true → v.ownBlock = none)) : Bn w0 C g m [(m, F)] none w := by
  have one : ∀ {b p : Nat} {G : List FD}, [(m, F)][b]? = some (p, G) → b = 0 ∧ p = m ∧ G = F := by
    intro b p G h
    match b, h with
    | 0, h =>
      simp only [List.getElem?_cons_zero, Option.some.injEq, Prod.mk.injEq] at h
      exact ⟨rfl, h.1.symm, h.2.symm⟩
  refine ⟨hfs, hgm, ⟨_, _, hg⟩, ?_, ?_, ?_, ?_, ?_, ?_, fun _ _ e => by cases e⟩
  · intro b c p G G' hb hc
    rw [(one hb).1, (one hc).1]
  · intro b p G hb
    exact .inl (one hb).2.1
  · intro b p G hb
    obtain ⟨_, rfl, rfl⟩ := one hb
    exact ⟨D, T, hm, hs⟩
  · intro b p G i fd hb hi
    obtain ⟨_, rfl, rfl⟩ := one hb
    obtain ⟨v, h1, h2, _⟩ := hr i fd hi
    exact ⟨v, by rw [cell_of_heap hm]; exact h1, h2⟩
  · intro b p G i fd v k hb hi ho hv hk
    obtain ⟨_, rfl, rfl⟩ := one hb
    obtain ⟨u, h1, _, h3⟩ := hr i fd hi
    rw [cell_of_heap hm, h1] at hv
    cases hv
    rw [h3 ho] at hk
    cases hk
  · intro b p G i fd v c q G2 j fd' v' k hb hi ho hv hb2 hj ho' hv' hk
    obtain ⟨_, rfl, rfl⟩ := one hb
    obtain ⟨u, h1, _, h3⟩ := hr i fd hi
    rw [cell_of_heap hm, h1] at hv
    cases hv
    rw [h3 ho] at hk
    cases hk

/-- An append whose run is known. -/
theorem wp_append_run {P : Program} {o : Oper} {a : Act} {K : Act → World → Prop} {Q : Exit → Act → World → Prop} (s x : Operand) (t : TypeId)
    (ho : o.op = .call { callee := .builtin .append, args := #[s, x], argTypes := #[t, t] }) (v u : Value) {v' : Value} {w w' : World} (hs : a.eval s = v) (hx : a.eval x = u)
    (hr : (Builtin.append_ #[t, t] o.type #[v, u]).run P w = .ok v' w') (h : K (a.put o.dst v') w') : o.wp P a w K Q := by
  unfold Oper.wp execOp
  simp only [ho, resolve, invoke, builtin, Sem.run_bind, Sem.run_pure, Result.andThen_ok, List.map_toArray, List.map_cons, List.map_nil, hs, hx, hr]
  exact h

theorem Bn.len (h : Bn w0 C g m Bs Ms w) {b p : Nat} {l : List UInt8} {F : List FD} (hb : Bs[b]? = some (p, .vw l :: F)) : cellLen w p = l.length := by
  obtain ⟨v, hv, hV⟩ := h.vw (i := 0) hb rfl
  obtain ⟨off, cap, rfl, _⟩ := hV
  unfold cellLen
  rw [hv]

/-- A block by its number in a piece of code. -/
def pblk (n : Nat) : Code → Option Code
  | .block k c => if k = n then some (.block k c) else pblk n c
  | .seq a b => match pblk n a with
    | some c => some c
    | none => pblk n b
  | .cond _ a b => match pblk n a with
    | some c => some c
    | none => pblk n b
  | .loop c => pblk n c
  | .scope c => pblk n c
  | _ => none

/-- What the first loop of a piece of code goes round. -/
def ploop : Code → Option Code
  | .loop c => some c
  | .seq a b => match ploop a with
    | some c => some c
    | none => ploop b
  | .block _ c => ploop c
  | .scope c => ploop c
  | .cond _ a b => match ploop a with
    | some c => some c
    | none => ploop b
  | _ => none

theorem arr_of (n : Nat) (s : Array Value) (h : s.size = n) : ∃ z : Nat → Value, s = ((List.range n).map z).toArray := by
  refine ⟨fun i => s.getD i undef, Array.ext (by simp [h]) fun i h1 h2 => ?_⟩
  simp [h1]

/-- Slices over the data, or nil; a list of none of them is nil. -/
def ShowL (C : Array Value) (g : Nat) (L : List (List UInt8)) (v : Value) (us : List Value) : Prop := (L = [] → v = .slice none 0 0) ∧ ∀ (j : Nat) (s : List UInt8), L[j]? = some s → ∃ u, us[j]? = some u ∧ VN C g u s

theorem ShowL.nil {C : Array Value} {g : Nat} : ShowL C g [] (.slice none 0 0) [] := ⟨fun _ => rfl, fun j s h => by simp at h⟩

theorem ShowL.snoc {C : Array Value} {g : Nat} {L : List (List UInt8)} {v v' u : Value} {us : List Value} {s : List UInt8} (h : ShowL C g L v us) (hl : us.length = L.length) (hu : VN C g u s) : ShowL C g (L ++ [s]) v' (us ++ [u]) := by
  refine ⟨fun e => by simp at e, fun j x hj => ?_⟩
  rcases Nat.lt_or_ge j L.length with hlt | hge
  · rw [List.getElem?_append_left hlt] at hj
    obtain ⟨y, hy, hr⟩ := h.2 j x hj
    exact ⟨y, by rw [List.getElem?_append_left (by omega)]; exact hy, hr⟩
  · rw [List.getElem?_append_right hge] at hj
    have e : j = L.length := by
      by_cases e : j - L.length = 0
      · omega
      · rw [List.getElem?_eq_none (by simp; omega)] at hj; cases hj
    subst e
    simp only [Nat.sub_self, List.getElem?_cons_zero, Option.some.injEq] at hj
    subst hj
    exact ⟨u, by rw [← hl]; simp, hu⟩

/-- A number more was seen. -/
theorem Bn.seen {mb : Nat} {seen : List Nat} (h : Bn w0 C g m Bs (some (mb, seen)) w) (t : Nat) (ht : t < 65536) (hl : seen.length < 16777216) :
    ∃ w', (Instr.mapUpdate 78 (.map (some mb)) (.int .u16 (t : Int)) (.bool true)).run Tryz.prog w = .ok () w' ∧ Bn w0 C g m Bs (some (mb, t :: seen)) w' := by
  obtain ⟨hs, hb0⟩ := h.maps mb seen rfl
  obtain ⟨es, kk, hm⟩ := hs.map
  obtain ⟨w', hr, hs', hf⟩ := seen_put hs t ht hl
  have hN : Bn w0 C g m Bs none w := ⟨h.fs, h.gm, h.data0, h.nodup, h.old, h.blk, h.rel, h.off, h.apart, fun _ _ e => by cases e⟩
  have h2 : Bn w0 C g m Bs none w' := by
    refine hN.other hf fun k hk => ?_
    simp only [List.mem_singleton] at hk
    subst hk
    refine ⟨hb0, fun c q G hc e => ?_, fun c q G j fd v hc hj ho hv e => ?_, fun _ _ e => by cases e⟩
    · obtain ⟨D, T, hh, _⟩ := h.blk c q G hc
      rw [e, hm] at hh
      cases hh
    · obtain ⟨u, hu, hru⟩ := h.rel c q G j fd hc hj
      rw [hv] at hu
      cases hu
      obtain ⟨cs, e', fr, hh⟩ := hru.obj ho k e
      rw [hm] at hh
      cases hh
  exact ⟨w', hr, h2.fs, h2.gm, h2.data0, h2.nodup, h2.old, h2.blk, h2.rel, h2.off, h2.apart, fun b s e => by cases e; exact ⟨hs', hb0⟩⟩

/-- A map is made. -/
theorem Bn.map (h : Bn w0 C g m Bs none w) : Bn w0 C g m Bs (some (w.heap.size, [])) (w.alloc (.map #[] 0)) :=
  have h2 := h.push (.map #[] 0)
  ⟨h2.fs, h2.gm, h2.data0, h2.nodup, h2.old, h2.blk, h2.rel, h2.off, h2.apart, fun b s e => by cases e; exact ⟨seen_new w, h.fs.size⟩⟩

theorem Bn.noMap (h : Bn w0 C g m Bs Ms w) : Bn w0 C g m Bs none w := ⟨h.fs, h.gm, h.data0, h.nodup, h.old, h.blk, h.rel, h.off, h.apart, fun _ _ e => by cases e⟩

theorem Bn.ne (h : Bn w0 C g m Bs Ms w) {b c p q : Nat} {F G : List FD} (hb : Bs[b]? = some (p, F)) (hc : Bs[c]? = some (q, G)) (hbc : b ≠ c) : p ≠ q := fun e => hbc (h.nodup b c q F G (e ▸ hb) hc)

theorem br8 {b c p q i j : Nat} {F G : List FD} {fo : FD} {l x r : List UInt8} (h : Bn w0 C g m Bs Ms w) (hr : rdv 1 l = some (x, r)) (hb : Bs[b]? = some (p, F)) (hi : F[i]? = some (.vw l)) (hc : Bs[c]? = some (q, G)) (hj : G[j]? = some fo)
    (fd : FD) (hn : fd.isOwn = false) (hw : ∀ v, View C g v x → FRel w w0.heap.size C g fd v) (hbc : b ≠ c) :
    Calls Tryz.prog 34 #[.pointer (some ⟨p, i, none⟩), .pointer (some ⟨q, j, none⟩)] w fun e w' => e = .returned (.bool true) ∧ Bn w0 C g m ((Bs.set b (p, F.set i (.vw r))).set c (q, G.set j fd)) Ms w' := by
  obtain ⟨T, fr, hg⟩ := h.data
  obtain ⟨v, hv, hV⟩ := h.vw hb hi
  obtain ⟨vq, hq, _⟩ := h.at hc hj
  have hpq := h.ne hb hc hbc
  refine (r8_yes ⟨p, i, none⟩ ⟨q, j, none⟩ w hr hg hV hv (h.frozen hb i) hq (h.frozen hc j) (h.ne_g hb) (by simp [hpq])).mono ?_
  rintro e w1 ⟨v1, v2, rfl, hv1, hv2, rfl⟩
  exact ⟨rfl, (h.set hb hi (.vw r) v2 rfl hv2).set (by rw [List.getElem?_set_ne hbc]; exact hc) hj fd v1 hn ((hw v1 hv1).plain hn)⟩
theorem br8_no {b p i : Nat} {F : List FD} {l : List UInt8} (h : Bn w0 C g m Bs Ms w) (hr : rdv 1 l = none) (hb : Bs[b]? = some (p, F)) (hi : F[i]? = some (.vw l)) (qo : Option Addr) :
    Calls Tryz.prog 34 #[.pointer (some ⟨p, i, none⟩), .pointer qo] w fun e w' => e = .returned (.bool false) ∧ Fs [m] w0 w' := by
  obtain ⟨T, fr, hg⟩ := h.data
  obtain ⟨v, hv, hV⟩ := h.vw hb hi
  refine (r8_no ⟨p, i, none⟩ qo w hr hg hV hv (h.frozen hb i) (h.ne_g hb)).mono ?_
  rintro e w1 ⟨v2, rfl, rfl⟩
  exact ⟨rfl, (h.set hb hi .any v2 rfl trivial).fs⟩

theorem br16 {b c p q i j : Nat} {F G : List FD} {fo : FD} {l x r : List UInt8} (h : Bn w0 C g m Bs Ms w) (hr : rdv 2 l = some (x, r)) (hb : Bs[b]? = some (p, F)) (hi : F[i]? = some (.vw l)) (hc : Bs[c]? = some (q, G)) (hj : G[j]? = some fo)
    (fd : FD) (hn : fd.isOwn = false) (hw : ∀ v, View C g v x → FRel w w0.heap.size C g fd v) (hbc : b ≠ c) :
    Calls Tryz.prog 30 #[.pointer (some ⟨p, i, none⟩), .pointer (some ⟨q, j, none⟩)] w fun e w' => e = .returned (.bool true) ∧ Bn w0 C g m ((Bs.set b (p, F.set i (.vw r))).set c (q, G.set j fd)) Ms w' := by
  obtain ⟨T, fr, hg⟩ := h.data
  obtain ⟨v, hv, hV⟩ := h.vw hb hi
  obtain ⟨vq, hq, _⟩ := h.at hc hj
  have hpq := h.ne hb hc hbc
  refine (r16_yes ⟨p, i, none⟩ ⟨q, j, none⟩ w hr hg hV hv (h.frozen hb i) hq (h.frozen hc j) (h.ne_g hb) (by simp [hpq])).mono ?_
  rintro e w1 ⟨v1, v2, rfl, hv1, hv2, rfl⟩
  exact ⟨rfl, (h.set hb hi (.vw r) v2 rfl hv2).set (by rw [List.getElem?_set_ne hbc]; exact hc) hj fd v1 hn ((hw v1 hv1).plain hn)⟩
theorem br16_no {b p i : Nat} {F : List FD} {l : List UInt8} (h : Bn w0 C g m Bs Ms w) (hr : rdv 2 l = none) (hb : Bs[b]? = some (p, F)) (hi : F[i]? = some (.vw l)) (qo : Option Addr) :
    Calls Tryz.prog 30 #[.pointer (some ⟨p, i, none⟩), .pointer qo] w fun e w' => e = .returned (.bool false) ∧ Fs [m] w0 w' := by
  obtain ⟨T, fr, hg⟩ := h.data
  obtain ⟨v, hv, hV⟩ := h.vw hb hi
  refine (r16_no ⟨p, i, none⟩ qo w hr hg hV hv (h.frozen hb i) (h.ne_g hb)).mono ?_
  rintro e w1 ⟨v2, rfl, rfl⟩
  exact ⟨rfl, (h.set hb hi .any v2 rfl trivial).fs⟩

theorem bt8 {b c p q i j : Nat} {F G : List FD} {fo : FD} {l x r : List UInt8} (h : Bn w0 C g m Bs Ms w) (hr : rdv 1 l = some (x, r)) (hb : Bs[b]? = some (p, F)) (hi : F[i]? = some (.vw l)) (hc : Bs[c]? = some (q, G)) (hj : G[j]? = some fo)
    (fd : FD) (hn : fd.isOwn = false) (hw : ∀ v, View C g v x → FRel w w0.heap.size C g fd v) (hbc : b ≠ c) :
    Calls Tryz.prog 29 #[.pointer (some ⟨p, i, none⟩), .pointer (some ⟨q, j, none⟩)] w fun e w' => e = .returned (.bool true) ∧ Bn w0 C g m ((Bs.set b (p, F.set i (.vw r))).set c (q, G.set j fd)) Ms w' := by
  obtain ⟨T, fr, hg⟩ := h.data
  obtain ⟨v, hv, hV⟩ := h.vw hb hi
  obtain ⟨vq, hq, _⟩ := h.at hc hj
  have hpq := h.ne hb hc hbc
  refine (t8_yes ⟨p, i, none⟩ ⟨q, j, none⟩ w hr hg hV hv (h.frozen hb i) hq (h.frozen hc j) (h.ne_g hb) (by simp [hpq])).mono ?_
  rintro e w1 ⟨v1, v2, rfl, hv1, hv2, rfl⟩
  exact ⟨rfl, (h.set hb hi (.vw r) v2 rfl hv2).set (by rw [List.getElem?_set_ne hbc]; exact hc) hj fd v1 hn ((hw v1 hv1).plain hn)⟩
theorem bt8_no {b p i : Nat} {F : List FD} {l : List UInt8} (h : Bn w0 C g m Bs Ms w) (hr : rdv 1 l = none) (hb : Bs[b]? = some (p, F)) (hi : F[i]? = some (.vw l)) (qo : Option Addr) :
    Calls Tryz.prog 29 #[.pointer (some ⟨p, i, none⟩), .pointer qo] w fun e w' => e = .returned (.bool false) ∧ Fs [m] w0 w' := by
  obtain ⟨T, fr, hg⟩ := h.data
  obtain ⟨v, hv, hV⟩ := h.vw hb hi
  refine (t8_no ⟨p, i, none⟩ qo w hr hg hV hv (h.frozen hb i) (h.ne_g hb)).mono ?_
  rintro e w1 ⟨v2, rfl, rfl⟩
  exact ⟨rfl, (h.set hb hi .any v2 rfl trivial).fs⟩

theorem bt16 {b c p q i j : Nat} {F G : List FD} {fo : FD} {l x r : List UInt8} (h : Bn w0 C g m Bs Ms w) (hr : rdv 2 l = some (x, r)) (hb : Bs[b]? = some (p, F)) (hi : F[i]? = some (.vw l)) (hc : Bs[c]? = some (q, G)) (hj : G[j]? = some fo)
    (fd : FD) (hn : fd.isOwn = false) (hw : ∀ v, View C g v x → FRel w w0.heap.size C g fd v) (hbc : b ≠ c) :
    Calls Tryz.prog 35 #[.pointer (some ⟨p, i, none⟩), .pointer (some ⟨q, j, none⟩)] w fun e w' => e = .returned (.bool true) ∧ Bn w0 C g m ((Bs.set b (p, F.set i (.vw r))).set c (q, G.set j fd)) Ms w' := by
  obtain ⟨T, fr, hg⟩ := h.data
  obtain ⟨v, hv, hV⟩ := h.vw hb hi
  obtain ⟨vq, hq, _⟩ := h.at hc hj
  have hpq := h.ne hb hc hbc
  refine (t16_yes ⟨p, i, none⟩ ⟨q, j, none⟩ w hr hg hV hv (h.frozen hb i) hq (h.frozen hc j) (h.ne_g hb) (by simp [hpq])).mono ?_
  rintro e w1 ⟨v1, v2, rfl, hv1, hv2, rfl⟩
  exact ⟨rfl, (h.set hb hi (.vw r) v2 rfl hv2).set (by rw [List.getElem?_set_ne hbc]; exact hc) hj fd v1 hn ((hw v1 hv1).plain hn)⟩
theorem bt16_no {b p i : Nat} {F : List FD} {l : List UInt8} (h : Bn w0 C g m Bs Ms w) (hr : rdv 2 l = none) (hb : Bs[b]? = some (p, F)) (hi : F[i]? = some (.vw l)) (qo : Option Addr) :
    Calls Tryz.prog 35 #[.pointer (some ⟨p, i, none⟩), .pointer qo] w fun e w' => e = .returned (.bool false) ∧ Fs [m] w0 w' := by
  obtain ⟨T, fr, hg⟩ := h.data
  obtain ⟨v, hv, hV⟩ := h.vw hb hi
  refine (t16_no ⟨p, i, none⟩ qo w hr hg hV hv (h.frozen hb i) (h.ne_g hb)).mono ?_
  rintro e w1 ⟨v2, rfl, rfl⟩
  exact ⟨rfl, (h.set hb hi .any v2 rfl trivial).fs⟩

theorem bru8 {b c p q i j : Nat} {F G : List FD} {fo : FD} {l x r : List UInt8} (h : Bn w0 C g m Bs Ms w) (hr : rd 1 l = some (x, r)) (hb : Bs[b]? = some (p, F)) (hi : F[i]? = some (.vw l)) (hc : Bs[c]? = some (q, G)) (hj : G[j]? = some fo) (hbc : b ≠ c) :
    Calls Tryz.prog 32 #[.pointer (some ⟨p, i, none⟩), .pointer (some ⟨q, j, none⟩)] w fun e w' => e = .returned (.bool true) ∧ Bn w0 C g m ((Bs.set b (p, F.set i (.vw r))).set c (q, G.set j (.val (.int .u8 (be x : Nat))))) Ms w' := by
  obtain ⟨T, fr, hg⟩ := h.data
  obtain ⟨v, hv, hV⟩ := h.vw hb hi
  obtain ⟨vq, hq, _⟩ := h.at hc hj
  have hpq := h.ne hb hc hbc
  refine (ru8_yes ⟨p, i, none⟩ ⟨q, j, none⟩ w hr hg hV hv (h.frozen hb i) hq (h.frozen hc j) (h.ne_g hb) (by simp [hpq])).mono ?_
  rintro e w1 ⟨v2, rfl, hv2, rfl⟩
  exact ⟨rfl, ((h.set hb hi (.vw r) v2 rfl hv2).set (by rw [List.getElem?_set_ne hbc]; exact hc) hj (.val (.int .u8 (be x : Nat))) _ rfl rfl)⟩
theorem bru8_no {b p i : Nat} {F : List FD} {l : List UInt8} (h : Bn w0 C g m Bs Ms w) (hr : rd 1 l = none) (hb : Bs[b]? = some (p, F)) (hi : F[i]? = some (.vw l)) (qo : Option Addr) :
    Calls Tryz.prog 32 #[.pointer (some ⟨p, i, none⟩), .pointer qo] w fun e w' => e = .returned (.bool false) ∧ Fs [m] w0 w' := by
  obtain ⟨v, hv, hV⟩ := h.vw hb hi
  refine (ru8_no ⟨p, i, none⟩ qo w hr hV hv).mono ?_
  rintro e w1 ⟨rfl, rfl⟩
  exact ⟨rfl, h.fs⟩

theorem bru16 {b c p q i j : Nat} {F G : List FD} {fo : FD} {l x r : List UInt8} (h : Bn w0 C g m Bs Ms w) (hr : rd 2 l = some (x, r)) (hb : Bs[b]? = some (p, F)) (hi : F[i]? = some (.vw l)) (hc : Bs[c]? = some (q, G)) (hj : G[j]? = some fo) (hbc : b ≠ c) :
    Calls Tryz.prog 27 #[.pointer (some ⟨p, i, none⟩), .pointer (some ⟨q, j, none⟩)] w fun e w' => e = .returned (.bool true) ∧ Bn w0 C g m ((Bs.set b (p, F.set i (.vw r))).set c (q, G.set j (.val (.int .u16 (be x : Nat))))) Ms w' := by
  obtain ⟨T, fr, hg⟩ := h.data
  obtain ⟨v, hv, hV⟩ := h.vw hb hi
  obtain ⟨vq, hq, _⟩ := h.at hc hj
  have hpq := h.ne hb hc hbc
  refine (ru16_yes ⟨p, i, none⟩ ⟨q, j, none⟩ w hr hg hV hv (h.frozen hb i) hq (h.frozen hc j) (h.ne_g hb) (by simp [hpq])).mono ?_
  rintro e w1 ⟨v2, rfl, hv2, rfl⟩
  exact ⟨rfl, ((h.set hb hi (.vw r) v2 rfl hv2).set (by rw [List.getElem?_set_ne hbc]; exact hc) hj (.val (.int .u16 (be x : Nat))) _ rfl rfl).drew⟩
theorem bru16_no {b p i : Nat} {F : List FD} {l : List UInt8} (h : Bn w0 C g m Bs Ms w) (hr : rd 2 l = none) (hb : Bs[b]? = some (p, F)) (hi : F[i]? = some (.vw l)) (qo : Option Addr) :
    Calls Tryz.prog 27 #[.pointer (some ⟨p, i, none⟩), .pointer qo] w fun e w' => e = .returned (.bool false) ∧ Fs [m] w0 w' := by
  obtain ⟨v, hv, hV⟩ := h.vw hb hi
  refine (ru16_no ⟨p, i, none⟩ qo w hr hV hv).mono ?_
  rintro e w1 ⟨rfl, rfl⟩
  exact ⟨rfl, h.fs⟩

theorem bru32 {b c p q i j : Nat} {F G : List FD} {fo : FD} {l x r : List UInt8} (h : Bn w0 C g m Bs Ms w) (hr : rd 4 l = some (x, r)) (hb : Bs[b]? = some (p, F)) (hi : F[i]? = some (.vw l)) (hc : Bs[c]? = some (q, G)) (hj : G[j]? = some fo) (hbc : b ≠ c) :
    Calls Tryz.prog 37 #[.pointer (some ⟨p, i, none⟩), .pointer (some ⟨q, j, none⟩)] w fun e w' => e = .returned (.bool true) ∧ Bn w0 C g m ((Bs.set b (p, F.set i (.vw r))).set c (q, G.set j (.val (.int .u32 (be x : Nat))))) Ms w' := by
  obtain ⟨T, fr, hg⟩ := h.data
  obtain ⟨v, hv, hV⟩ := h.vw hb hi
  obtain ⟨vq, hq, _⟩ := h.at hc hj
  have hpq := h.ne hb hc hbc
  refine (ru32_yes ⟨p, i, none⟩ ⟨q, j, none⟩ w hr hg hV hv (h.frozen hb i) hq (h.frozen hc j) (h.ne_g hb) (by simp [hpq])).mono ?_
  rintro e w1 ⟨v2, rfl, hv2, rfl⟩
  exact ⟨rfl, ((h.set hb hi (.vw r) v2 rfl hv2).set (by rw [List.getElem?_set_ne hbc]; exact hc) hj (.val (.int .u32 (be x : Nat))) _ rfl rfl).drew⟩
theorem bru32_no {b p i : Nat} {F : List FD} {l : List UInt8} (h : Bn w0 C g m Bs Ms w) (hr : rd 4 l = none) (hb : Bs[b]? = some (p, F)) (hi : F[i]? = some (.vw l)) (qo : Option Addr) :
    Calls Tryz.prog 37 #[.pointer (some ⟨p, i, none⟩), .pointer qo] w fun e w' => e = .returned (.bool false) ∧ Fs [m] w0 w' := by
  obtain ⟨v, hv, hV⟩ := h.vw hb hi
  refine (ru32_no ⟨p, i, none⟩ qo w hr hV hv).mono ?_
  rintro e w1 ⟨rfl, rfl⟩
  exact ⟨rfl, h.fs⟩

theorem brb {b c p q i j : Nat} {F G : List FD} {fo : FD} {l x r : List UInt8} (n : Int) (h : Bn w0 C g m Bs Ms w) (hn0 : 0 ≤ n) (hr : rd n.toNat l = some (x, r)) (hb : Bs[b]? = some (p, F)) (hi : F[i]? = some (.vw l)) (hc : Bs[c]? = some (q, G)) (hj : G[j]? = some fo)
    (fd : FD) (hn : fd.isOwn = false) (hw : ∀ v, View C g v x → FRel w w0.heap.size C g fd v) (hbc : b ≠ c) :
    Calls Tryz.prog 28 #[.pointer (some ⟨p, i, none⟩), .pointer (some ⟨q, j, none⟩), .int .i64 n] w fun e w' => e = .returned (.bool true) ∧ Bn w0 C g m ((Bs.set b (p, F.set i (.vw r))).set c (q, G.set j fd)) Ms w' := by
  obtain ⟨v, hv, hV⟩ := h.vw hb hi
  obtain ⟨vq, hq, _⟩ := h.at hc hj
  have hpq := h.ne hb hc hbc
  refine (rb_yes ⟨p, i, none⟩ ⟨q, j, none⟩ n w hn0 hr hV hv (h.frozen hb i) hq (h.frozen hc j) (by simp [hpq])).mono ?_
  rintro e w1 ⟨v1, v2, rfl, hv1, hv2, rfl⟩
  exact ⟨rfl, (h.set hb hi (.vw r) v2 rfl hv2).set (by rw [List.getElem?_set_ne hbc]; exact hc) hj fd v1 hn ((hw v1 hv1).plain hn)⟩
theorem brb_no {b p i : Nat} {F : List FD} {l : List UInt8} (n : Int) (h : Bn w0 C g m Bs Ms w) (hn0 : 0 ≤ n) (hr : rd n.toNat l = none) (hb : Bs[b]? = some (p, F)) (hi : F[i]? = some (.vw l)) (qo : Option Addr) :
    Calls Tryz.prog 28 #[.pointer (some ⟨p, i, none⟩), .pointer qo, .int .i64 n] w fun e w' => e = .returned (.bool false) ∧ Fs [m] w0 w' := by
  obtain ⟨v, hv, hV⟩ := h.vw hb hi
  refine (rb_no ⟨p, i, none⟩ qo n w hn0 hr hV hv).mono ?_
  rintro e w1 ⟨rfl, rfl⟩
  exact ⟨rfl, h.fs⟩

theorem bskip {b p i : Nat} {F : List FD} {l x r : List UInt8} (n : Int) (h : Bn w0 C g m Bs Ms w) (hn0 : 0 ≤ n) (hr : rd n.toNat l = some (x, r)) (hb : Bs[b]? = some (p, F)) (hi : F[i]? = some (.vw l)) :
    Calls Tryz.prog 26 #[.pointer (some ⟨p, i, none⟩), .int .i64 n] w fun e w' => e = .returned (.bool true) ∧ Bn w0 C g m (Bs.set b (p, F.set i (.vw r))) Ms w' := by
  obtain ⟨v, hv, hV⟩ := h.vw hb hi
  refine (skip_yes ⟨p, i, none⟩ n w hn0 hr hV hv (h.frozen hb i)).mono ?_
  rintro e w1 ⟨v2, rfl, hv2, rfl⟩
  exact ⟨rfl, h.set hb hi (.vw r) v2 rfl hv2⟩
theorem bskip_no {b p i : Nat} {F : List FD} {l : List UInt8} (n : Int) (h : Bn w0 C g m Bs Ms w) (hn0 : 0 ≤ n) (hr : (l.length : Int) < n) (hb : Bs[b]? = some (p, F)) (hi : F[i]? = some (.vw l)) :
    Calls Tryz.prog 26 #[.pointer (some ⟨p, i, none⟩), .int .i64 n] w fun e w' => e = .returned (.bool false) ∧ Fs [m] w0 w' := by
  obtain ⟨v, hv, hV⟩ := h.vw hb hi
  obtain ⟨off, cap, rfl, hl⟩ := hV.slice
  refine (skip_no ⟨p, i, none⟩ n w hn0 hr hl hv).mono ?_
  rintro e w1 ⟨rfl, rfl⟩
  exact ⟨rfl, h.fs⟩

end

end Go.Proofs.YtopcljikkdlffaaGreat
namespace Go.Proofs.YtopcljikkdlffaaGreat

/-- Vectors, none of them empty, until nothing is left. -/
def tvecs (k : Nat) : Nat → List UInt8 → Option (List (List UInt8))
  | 0, s => if s = [] then some [] else none
  | f + 1, s => if s = [] then some [] else
    match rdv k s with
    | none => none
    | some (x, r) => if x = [] then none else (tvecs k f r).map (x :: ·)

theorem tvecs_succ {k n : Nat} {s : List UInt8} (h : s ≠ []) : tvecs k (n + 1) s = (rdv k s).bind fun y => if y.1 = [] then none else (tvecs k n y.2).map (y.1 :: ·) := by
  show (if s = [] then _ else _) = _
  rw [if_neg h]
  cases rdv k s <;> rfl

end Go.Proofs.YtopcljikkdlffaaGreat
namespace Go.Proofs.YtopcljikkdlffaaGreat
open Go.RowKit

end Go.Proofs.YtopcljikkdlffaaGreat
namespace Go.Proofs.YtopcljikkdlffaaGreat
open Go.RowKit

/-- Not a length out of its range. -/
def fine (c : Nat) : Prop := c ≠ 2

end Go.Proofs.YtopcljikkdlffaaGreat
namespace Go.Proofs.YtopcljikkdlffaaGreat
open Go.RowKit

end Go.Proofs.YtopcljikkdlffaaGreat
namespace Go.Proofs.YtopcljikkdlffaaGreat
open Go.RowKit

theorem Fs.setCell {l : List Nat} {a w : World} (h : Fs l a w) (m o : Nat) (u : Value) (hm : m ∈ l) : Fs l a (w.setCell ⟨m, o, none⟩ u) :=
  h.trans ⟨rfl, rfl, rfl, by simp [World.setCell], fun k _ hn => Below.heap_setCell _ _ _ _ (fun e => hn (e ▸ hm))⟩
/-- What an extension leaves of a reader; b: whether a key share says what is not spoken of. -/
def rsext (kind : Nat) (b : Bool) (st : Nat × List UInt8) : Nat × List UInt8 :=
  if kind = 5 ∨ kind = 35 ∨ kind = 23 ∨ kind = 0 then st
  else if kind = 65281 then (rvec 1 0 255 st).2
  else if kind = 16 then (rprot st).2
  else if kind = 18 then rdone (rvec 2 1 65535 st).2 (rvecs 2 1 (rvec 2 1 65535 st).1.length (rin (rvec 2 1 65535 st).2 (rvec 2 1 65535 st).1)).2
  else if kind = 43 ∨ kind = 41 then (rnum 2 st).2
  else if kind = 51 then
    if b then rfail 1 (if (rnum 2 st).2.1 = 0 ∧ (rnum 2 st).2.2 = [] then (rnum 2 st).2 else (rvec 2 0 65535 (rnum 2 st).2).2)
    else (if (rnum 2 st).2.1 = 0 ∧ (rnum 2 st).2.2 = [] then (rnum 2 st).2 else (rvec 2 0 65535 (rnum 2 st).2).2)
  else if kind = 44 then (rvec 2 1 65535 st).2
  else if kind = 11 then (rvec 1 1 255 st).2
  else if kind = 65037 then (rrest st).2
  else (st.1, [])

end Go.Proofs.YtopcljikkdlffaaGreat
namespace Go.Proofs.YtopcljikkdlffaaGreat
open Go.RowKit

/-- A struct is read, in a region that draws its order. -/
theorem wpStill_load_row {P : Program} {ops : Array Oper} {rest : List Oper} {o : Oper} {a : Act} {w : World} {Q : Act → Prop} (hgd : o.guard = none) (ty : TypeId) (x : Operand) (ho : o.op = .load ty x)
    (g : Nat) (hx : a.eval x = .pointer (some ⟨g, 0, none⟩)) (t : TypeId) (cs : Array Value) (fr : Nat × Nat) (d : TypeDesc) (hg : w.heap[g]? = some (.cells cs t fr))
    (hu : P.underlying ty = some d) (hd : (match d with | .struct _ | .array _ _ => true | _ => false) = true) (hi : (P.info? ty).map (·.size) = some cs.size)
    (h : wpStill P ops w Q rest (a.put o.dst (.agg cs))) : wpStill P ops w Q (o :: rest) a := by
  refine wpStill_step fun K hK => ?_
  simp only [Region.wanted, hgd, if_true]
  unfold Oper.still execOp
  simp only [ho, hx, Instr.loadAt, Instr.sureAddr, Sem.run_bind, Sem.run_pure, Result.andThen_ok, run_loadVar_row w g t ty cs fr d hg hu hd hi]
  exact ⟨rfl, hK _ h⟩

/-- A struct is read, as an equation. -/
theorem exec_load_row {P : Program} {ρ : Operand → Value} {o : Oper} {w : World} (ty : TypeId) (x : Operand) (ho : o.op = .load ty x)
    (g : Nat) (hx : ρ x = .pointer (some ⟨g, 0, none⟩)) (t : TypeId) (cs : Array Value) (fr : Nat × Nat) (d : TypeDesc) (hg : w.heap[g]? = some (.cells cs t fr))
    (hu : P.underlying ty = some d) (hd : (match d with | .struct _ | .array _ _ => true | _ => false) = true) (hi : (P.info? ty).map (·.size) = some cs.size) :
    (execOp ρ o).run P w = .ok (.value (.agg cs)) w := by
  unfold execOp
  simp only [ho, hx, Instr.loadAt, Instr.sureAddr, Sem.run_bind, Sem.run_pure, Result.andThen_ok, run_loadVar_row w g t ty cs fr d hg hu hd hi]

/-- A struct and one value more are handed back. -/
theorem results_row_tmp {P : Program} {fn : Func} {p u : Tmp} {ty : TypeId} (h : fn.results = #[.cell p ty, .tmp u]) (tmps : Array Value) (w : World) (g : Nat) (t : TypeId) (cs : Array Value) (fr : Nat × Nat) (d : TypeDesc)
    (hp : tmps.getD p undef = .pointer (some ⟨g, 0, none⟩)) (hg : w.heap[g]? = some (.cells cs t fr))
    (hu : P.underlying ty = some d) (hd : (match d with | .struct _ | .array _ _ => true | _ => false) = true) (hi : (P.info? ty).map (·.size) = some cs.size) :
    (results fn tmps).run P w = .ok (.tuple #[.agg cs, tmps.getD u undef]) w := by
  rw [results_cell_tmp h, hp]
  simp [asAddr, run_loadVar_row w g t ty cs fr d hg hu hd hi, Result.andThen]

theorem ret_row_tmp {P : Program} {fn : Func} {R : Ending → World → Prop} {a : Act} {w : World} {p u : Tmp} {ty : TypeId} (v : Value) (h : fn.results = #[.cell p ty, .tmp u]) (g : Nat) (t : TypeId) (cs : Array Value) (fr : Nat × Nat) (d : TypeDesc)
    (hp : a.tmps.getD p undef = .pointer (some ⟨g, 0, none⟩)) (hv : a.tmps.getD u undef = v) (hg : w.heap[g]? = some (.cells cs t fr))
    (hu : P.underlying ty = some d) (hd : (match d with | .struct _ | .array _ _ => true | _ => false) = true) (hi : (P.info? ty).map (·.size) = some cs.size) (hdf : a.defers = [])
    (hR : R (.returned (.tuple #[.agg cs, v])) w) : bodyPost P fn R .ret a w :=
  bodyPost_ret (by rw [results_row_tmp h _ _ g t cs fr d hp hg hu hd hi, hv]) hdf hR

theorem exec_build {P : Program} {o : Oper} {a : Act} {w : World} (t : TypeId) (parts : Array (Nat × Operand)) (cells : Array Value) (ho : o.op = .build t parts)
    (hf : P.built t (parts.map fun (i, x) => (i, a.eval x)).toList = some cells) : (execOp a.eval o).run P w = .ok (.value (.agg cells)) w := by
  unfold execOp
  simp only [ho, Sem.run_bind, run_build w t _ cells hf, Result.andThen_ok]
  rfl

/-- Reads and reckonings, one behind the other. -/
def stl (P : Program) (w : World) (Q : Act → Prop) : List Oper → Act → Prop
  | [], a => Q a
  | o :: r, a => ∃ v, (execOp a.eval o).run P w = .ok (.value v) w ∧ stl P w Q r (a.put o.dst v)

theorem stl_still {P : Program} {ops : Array Oper} {w : World} {Q : Act → Prop} : ∀ {l : List Oper} {a : Act}, l.all (fun o => o.guard.isNone) = true → stl P w Q l a → wpStill P ops w Q l a
  | [], _, _, h => h
  | o :: r, a, hg, ⟨v, hr, h⟩ => by
    simp only [List.all_cons, Bool.and_eq_true, Option.isNone_iff_eq_none] at hg
    refine wpStill_step fun K hK => ?_
    simp only [Region.wanted, hg.1, if_true]
    unfold Oper.still
    rw [hr]
    exact ⟨rfl, hK _ (stl_still hg.2 h)⟩

end Go.Proofs.YtopcljikkdlffaaGreat
namespace Go.Proofs.YtopcljikkdlffaaGreat
open Go.RowKit

/-- Bytes that came in: fewer than four, at whatever address; or a view. -/
def InB (w : World) (lo : Nat) (v : Value) (bs : List UInt8) : Prop :=
  (∃ a cap, v = .slice a bs.length cap ∧ bs.length < 4) ∨ (4 ≤ bs.length ∧ ∃ (C : Array Value) (g : Nat) (T : TypeId) (fr : Nat × Nat), g < lo ∧ w.heap[g]? = some (.cells C T fr) ∧ View C g v bs)

theorem InB.slice {w : World} {lo : Nat} {v : Value} {bs : List UInt8} (h : InB w lo v bs) : ∃ a cap, v = .slice a bs.length cap := by
  rcases h with ⟨a, cap, h, _⟩ | ⟨_, C, g, T, fr, _, _, off, cap, h, _⟩
  · exact ⟨a, cap, h⟩
  · exact ⟨_, cap, h⟩

theorem InB.below {w w' : World} {lo : Nat} {v : Value} {bs : List UInt8} (h : InB w lo v bs) (hb : Below lo w w') : InB w' lo v bs := by
  rcases h with h | ⟨h4, C, g, T, fr, hl, hg, hv⟩
  · exact .inl h
  · exact .inr ⟨h4, C, g, T, fr, hl, (hb.block g hl).trans hg, hv⟩

/-- What its extensions leave, one behind the other. -/
def RLoop : List (Nat × List UInt8) → Nat × List UInt8 → Nat × List UInt8 → Prop
  | [], st, st' => st' = st
  | e :: l, st, st' => ∃ b, RLoop l (rdone st (rsext e.1 b (rin st e.2))) st'

theorem RLoop.snoc {l : List (Nat × List UInt8)} {e : Nat × List UInt8} : ∀ {st s1 : Nat × List UInt8} (b : Bool), RLoop l st s1 → RLoop (l ++ [e]) st (rdone s1 (rsext e.1 b (rin s1 e.2))) := by
  induction l with
  | nil => intro st s1 b h; subst h; exact ⟨b, rfl⟩
  | cons x l ih => intro st s1 b h; obtain ⟨b', h⟩ := h; exact ⟨b', ih b h⟩

end Go.Proofs.YtopcljikkdlffaaGreat
