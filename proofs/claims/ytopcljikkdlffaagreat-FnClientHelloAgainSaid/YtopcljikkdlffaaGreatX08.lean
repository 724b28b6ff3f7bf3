/- Rows of slices, fields by value, a struct put together: what the walks share. A struct in memory that is made into bytes: what its cells show, and builders without error. addBytesWithLength: bytes whose length is right are added. What package tls makes of the bytes of a Certificate of TLS 1.3, what it writes of it, and that this is read again as it was. No program and no memory stand here. What package tls makes of the bytes of a ClientHello, in plain words on lists. No program and no memory stand here. What the reference makes of the bytes of a ClientHello, in plain words on lists. No program and no memory stand here. No statement of the seat is proved here. -/
import Derived.Test.YtopcljikkdlffaaGreatX07
import Derived.Test.YtopcljikkdlffaaGreatX05
namespace Go.Proofs.YtopcljikkdlffaaGreat
open Go.RowKit

theorem SrcB.ks {w w' : World} {base q : Nat} {v : Value} {s : List UInt8} (h : SrcB w base v s) (hk : Ks base q w w') (hq : base ≤ q) : SrcB w' base v s := by
  rcases h with h | ⟨ad, cap, e, hlt, hc⟩
  · exact .inl h
  · refine .inr ⟨ad, cap, e, hlt, fun j u hu => ?_⟩
    have hs : s ≠ [] := by rintro rfl; simp at hu
    have hb := hlt hs
    have hcj := hc j u hu
    have hl := World.block_lt_of_cell? w _ hcj
    rw [add_block] at hl
    have hkeep := hk.keep ad.block hl (by omega) (.inl hb) (fun ⟨cs, fr, hcs, h8⟩ => by
      have e8 : ∃ k : Int, u = .int .u8 k := by
        rw [List.getElem?_map] at hu
        obtain ⟨x, _, rfl⟩ := Option.map_eq_some_iff.1 hu
        exact ⟨_, rfl⟩
      obtain ⟨k, rfl⟩ := e8
      unfold World.cell? at hcj
      rw [add_block, hcs] at hcj
      simp only at hcj
      split at hcj
      · cases hcj
      · exact h8 _ _ hcj)
    rw [← hcj]
    exact World.cell?_of_block (by rw [add_block]; exact hkeep)

/-- A row of slices of bytes, below base. -/
def SrcL (w : World) (base : Nat) (v : Value) (L : List (List UInt8)) : Prop :=
  (v = .slice none 0 0 ∧ L = []) ∨ ∃ h cap cur, v = .slice (some ⟨h, 0, none⟩) L.length cap ∧ h < base ∧ w.heap[h]? = some (.cells cur 22 (0, 0)) ∧ ∀ (j : Nat) (s : List UInt8), L[j]? = some s → ∃ u, cur[j]? = some u ∧ SrcB w base u s

theorem SrcL.ks {w w' : World} {base q : Nat} {v : Value} {L : List (List UInt8)} (h : SrcL w base v L) (hk : Ks base q w w') (hq : base ≤ q) : SrcL w' base v L := by
  rcases h with h | ⟨h, cap, cur, e, hlt, hh, hc⟩
  · exact .inl h
  · refine .inr ⟨h, cap, cur, e, hlt, hk.other hh (by decide) (by omega), fun j s hj => ?_⟩
    obtain ⟨u, hu, hs⟩ := hc j s hj
    exact ⟨u, hu, hs.ks hk hq⟩

theorem SrcL.len {w : World} {base : Nat} {v : Value} {L : List (List UInt8)} (h : SrcL w base v L) : ∃ ad cap, v = .slice ad L.length cap ∧ (0 < L.length → ∃ x, ad = some ⟨x, 0, none⟩) ∧ (ad.isNone = true ↔ v = .slice none 0 0) := by
  rcases h with ⟨rfl, rfl⟩ | ⟨h, cap, cur, rfl, _⟩
  · exact ⟨none, 0, rfl, fun h => by simp at h, by simp⟩
  · exact ⟨some _, cap, rfl, fun _ => ⟨_, rfl⟩, by simp⟩

theorem SrcL.at {w : World} {base len cap x : Nat} {L : List (List UInt8)} (h : SrcL w base (.slice (some ⟨x, 0, none⟩) len cap) L) {j : Nat} (hj : j < L.length) : ∃ u, w.cell? ⟨x, j, none⟩ = some u ∧ SrcB w base u L[j] := by
  rcases h with ⟨h, _⟩ | ⟨h, cap, cur, e, _, hh, hc⟩
  · cases h
  · simp only [Value.slice.injEq, Option.some.injEq, Addr.mk.injEq, and_true] at e
    obtain ⟨rfl, _, _⟩ := e
    obtain ⟨u, hu, hs⟩ := hc j _ (List.getElem?_eq_getElem hj)
    exact ⟨u, by rw [cell_of_heap hh]; exact hu, hs⟩

theorem fs_bel {w w' : World} {l : List Nat} (hf : Fs l w w') (hl : ∀ p ∈ l, w.heap.size ≤ p) : Below w.heap.size w w' :=
  ⟨hf.os, hf.tape, hf.output, hf.size, fun k hk => hf.keep k hk (fun hm => by have := hl k hm; omega)⟩

/-- A struct is put together, in a region that draws its order. -/
theorem wpStill_build {P : Program} {ops : Array Oper} {rest : List Oper} {o : Oper} {a : Act} {w : World} {Q : Act → Prop} (hgd : o.guard = none) (t : TypeId) (parts : Array (Nat × Operand)) (cells : Array Value) (ho : o.op = .build t parts)
    (hf : P.built t (parts.map fun (i, x) => (i, a.eval x)).toList = some cells) (h : wpStill P ops w Q rest (a.put o.dst (.agg cells))) : wpStill P ops w Q (o :: rest) a := by
  refine wpStill_step fun K hK => ?_
  simp only [Region.wanted, hgd, if_true]
  unfold Oper.still
  rw [exec_build t parts cells ho hf]
  exact ⟨rfl, hK _ h⟩

theorem FRel.mono {w : World} {base base' : Nat} {C : Array Value} {g : Nat} {fd : FD} {v : Value} (h : FRel w base' C g fd v) (hb : base ≤ base') : FRel w base C g fd v := by
  cases fd with
  | own e size n R =>
    obtain ⟨us, h1, h2⟩ := h
    exact ⟨us, ownsRow_mono h1 hb, h2⟩
  | any => exact h
  | val u => exact h
  | vw l => exact h
  | vn l => exact h
  | vz l => exact h

theorem srcL_of {w : World} {base B : Nat} {C : Array Value} {g : Nat} {T : TypeId} {fr : Nat × Nat} {v : Value} {L : List (List UInt8)} (h : FRel w base C g (.own 22 1 L.length (ShowL C g L)) v) (hg : w.heap[g]? = some (.cells C T fr)) (hB : w.heap.size ≤ B) :
    SrcL w B v L ∧ (v = .slice none 0 0 ↔ L = []) := by
  obtain ⟨us, hown, hR⟩ := h
  rcases hown.2 with ⟨rfl, hn⟩ | ⟨p, cap, cur, rfl, hbp, hh, hnc, _, hcs, htake⟩
  · have e := List.length_eq_zero_iff.1 hn
    exact ⟨.inl ⟨rfl, e⟩, by simp [e]⟩
  · refine ⟨.inr ⟨p, cap, cur, rfl, by have := lt_of_heap hh; omega, hh, fun j s hj => ?_⟩, by simp; intro e; have := hR.1 e; cases this⟩
    obtain ⟨u, hu, hv⟩ := hR.2 j s hj
    refine ⟨u, ?_, (vn_src hv hg).keep hB (fun _ _ => rfl)⟩
    rw [← htake, List.getElem?_take] at hu
    split at hu
    · rw [← Array.getElem?_toList]; exact hu
    · cases hu

theorem srcB_of {w : World} {base B : Nat} {C : Array Value} {g : Nat} {T : TypeId} {fr : Nat × Nat} {v : Value} {l : List UInt8} (h : FRel w base C g (.vz l) v) (hg : w.heap[g]? = some (.cells C T fr)) (hB : w.heap.size ≤ B) :
    SrcB w B v l ∧ (v = .slice none 0 0 ↔ l = []) := by
  rcases h with ⟨rfl, rfl⟩ | ⟨hl, hv⟩
  · exact ⟨.inl ⟨rfl, rfl⟩, by simp⟩
  · refine ⟨(vn_src (.inr hv) hg).keep hB (fun _ _ => rfl), ?_⟩
    obtain ⟨o, c, rfl, _⟩ := hv
    simp [hl]

theorem SrcL.lst {w : World} {base : Nat} {v : Value} {L : List (List UInt8)} (h : SrcL w base v L) : LstB w base v L := by
  rcases h with h | ⟨p, cap, cur, rfl, hlt, hh, hc⟩
  · exact .inl h
  · refine .inr ⟨_, cap, rfl, fun _ => hlt, fun j s hj => ?_⟩
    obtain ⟨u, hu, hs⟩ := hc j s hj
    refine ⟨u, ?_, hs⟩
    rw [add_plain, Nat.zero_add, cell_of_heap hh]
    exact hu

theorem SrcL.keep {w w' : World} {base base' : Nat} {v : Value} {L : List (List UInt8)} (h : SrcL w base v L) (hb : base ≤ base') (hk : ∀ k, k < base → w'.heap[k]? = w.heap[k]?) : SrcL w' base' v L := by
  rcases h with h | ⟨p, cap, cur, e, hlt, hh, hc⟩
  · exact .inl h
  · refine .inr ⟨p, cap, cur, e, by omega, (hk p hlt).trans hh, fun j s hj => ?_⟩
    obtain ⟨u, hu, hs⟩ := hc j s hj
    exact ⟨u, hu, hs.keep hb hk⟩

/-- Bytes of a row that is owned come in. -/
theorem inB_own {w : World} {base lo : Nat} {v : Value} {s : List UInt8} (h : w.ownsRow base 5 1 v s.length (s.map by8)) (h4 : 4 ≤ s.length) (hlo : w.heap.size ≤ lo) : InB w lo v s := by
  rcases h.2 with ⟨_, hn⟩ | ⟨p, cap, cur, rfl, hb, hh, hnc, hcm, hcs, htake⟩
  · omega
  · refine .inr ⟨h4, cur, p, _, _, by have := lt_of_heap hh; omega, hh, 0, cap, rfl, hnc, hcm, fun i hi => ?_⟩
    have e : (s.map by8)[i]? = some (by8 (s.getD i 0)) := by simp [hi]
    rw [← htake, List.getElem?_take] at e
    split at e
    · rw [Nat.zero_add, ← Array.getElem?_toList]; exact e
    · cases e

end Go.Proofs.YtopcljikkdlffaaGreat
namespace Go.Proofs.YtopcljikkdlffaaGreat
open Go.RowKit

/-- What a cell of a struct that is made shows. -/
inductive SD
  | any
  | val (v : Value)
  | src (l : List UInt8)
  | lst (L : List (List UInt8))

def SRel (w : World) (base : Nat) : SD → Value → Prop
  | .any, _ => True
  | .val u, v => v = u
  | .src l, v => SrcB w base v l
  | .lst L, v => SrcL w base v L

theorem SRel.ks {w w' : World} {base q : Nat} {sd : SD} {v : Value} (h : SRel w base sd v) (hk : Ks base q w w') (hq : base ≤ q) : SRel w' base sd v := by
  cases sd with
  | any => exact h
  | val u => exact h
  | src l => exact SrcB.ks h hk hq
  | lst L => exact SrcL.ks h hk hq

/-- Variable x holds the struct's address m. -/
structure MsgS (w : World) (base x m : Nat) (F : List SD) : Prop where
  hx : ∃ T, (T ≠ 5 ∧ T ≠ 96) ∧ T ≠ 4 ∧ w.heap[x]? = some (.cells #[.pointer (some ⟨m, 0, none⟩)] T (0, 0))
  hm : ∃ D T, (T ≠ 5 ∧ T ≠ 96) ∧ T ≠ 4 ∧ w.heap[m]? = some (.cells D T (0, 0)) ∧ ∀ (i : Nat) (sd : SD), F[i]? = some sd → ∃ v, D[i]? = some v ∧ SRel w base sd v

section
variable {w w' : World} {base x m q c : Nat} {F : List SD}

theorem MsgS.ks (h : MsgS w base x m F) (hk : Ks base q w w') (hq : base ≤ q) (hxq : x ≠ q) (hmq : m ≠ q) : MsgS w' base x m F := by
  obtain ⟨T, hT, hTb, hx⟩ := h.hx
  obtain ⟨D, T2, hT2, hT2b, hm, hr⟩ := h.hm
  refine ⟨⟨T, hT, hTb, hk.other hx hT hxq⟩, D, T2, hT2, hT2b, hk.other hm hT2 hmq, fun i sd hi => ?_⟩
  obtain ⟨v, hv, hs⟩ := hr i sd hi
  exact ⟨v, hv, hs.ks hk hq⟩

theorem MsgS.cell (h : MsgS w base x m F) : w.cell? ⟨x, 0, none⟩ = some (.pointer (some ⟨m, 0, none⟩)) := by
  obtain ⟨T, _, _, hx⟩ := h.hx
  exact cell_head hx

theorem MsgS.at (h : MsgS w base x m F) {i : Nat} {sd : SD} (hi : F[i]? = some sd) : ∃ v, w.cell? ⟨m, i, none⟩ = some v ∧ SRel w base sd v := by
  obtain ⟨D, T2, _, _, hm, hr⟩ := h.hm
  obtain ⟨v, hv, hs⟩ := hr i sd hi
  exact ⟨v, by rw [cell_of_heap hm]; exact hv, hs⟩

theorem MsgS.val (h : MsgS w base x m F) {i : Nat} {v : Value} (hi : F[i]? = some (.val v)) : w.cell? ⟨m, i, none⟩ = some v := by
  obtain ⟨u, hu, e⟩ := h.at hi
  rw [hu]; exact congrArg some e

theorem MsgS.src (h : MsgS w base x m F) {i : Nat} {l : List UInt8} (hi : F[i]? = some (.src l)) : ∃ v, w.cell? ⟨m, i, none⟩ = some v ∧ SrcB w base v l := h.at hi

theorem MsgS.lst (h : MsgS w base x m F) {i : Nat} {L : List (List UInt8)} (hi : F[i]? = some (.lst L)) : ∃ v, w.cell? ⟨m, i, none⟩ = some v ∧ SrcL w base v L := h.at hi

theorem MsgS.ne_flag {b : Bool} (h : MsgS w base x m F) (hq : Flag w q b) : x ≠ q ∧ m ≠ q := by
  obtain ⟨T, _, hTb, hx⟩ := h.hx
  obtain ⟨D, T2, _, hT2b, hm, _⟩ := h.hm
  constructor
  · rintro rfl
    unfold Flag at hq
    rw [hq] at hx
    simp only [Option.some.injEq, Obj.cells.injEq] at hx
    exact hTb hx.2.1.symm
  · rintro rfl
    unfold Flag at hq
    rw [hq] at hm
    simp only [Option.some.injEq, Obj.cells.injEq] at hm
    exact hT2b hm.2.1.symm

theorem MsgS.lt (h : MsgS w base x m F) : x < w.heap.size ∧ m < w.heap.size := by
  obtain ⟨T, _, _, hx⟩ := h.hx
  obtain ⟨D, T2, _, _, hm, _⟩ := h.hm
  exact ⟨lt_of_heap hx, lt_of_heap hm⟩

theorem MsgS.fr (h : MsgS w base x m F) (hf : Fr base c w w') (hc : w.heap.size ≤ c ∨ IsBld w c) : MsgS w' base x m F :=
  h.ks (q := base + x + m + 1) (Ks.of_fr hf hc) (by omega) (by omega) (by omega)

theorem MsgS.alloc (h : MsgS w base x m F) (o : Obj) : MsgS (w.alloc o) base x m F :=
  h.ks (q := base + x + m + 1) ((Ks.refl _ _ _).alloc o) (by omega) (by omega) (by omega)

/-- A builder of its own, without error: its bytes. -/
def BS (w : World) (base c : Nat) (bs : List UInt8) : Prop :=
  ∃ ic, BAt w base c 0 0 ic bs ∧ (ic = .pointer none ∨ ∃ q, ic = .pointer (some ⟨q, 0, none⟩) ∧ Flag w q false ∧ base ≤ q)

theorem BS.isBld {bs : List UInt8} (h : BS w base c bs) : IsBld w c := by
  obtain ⟨ic, hB, rfl | ⟨q, rfl, _⟩⟩ := h
  · exact hB.isBld
  · exact hB.isBld

theorem BS.size {bs : List UInt8} (h : BS w base c bs) : base ≤ w.heap.size := by
  obtain ⟨ic, ⟨_, _, _, h⟩, _⟩ := h
  exact h

theorem BS.alloc {bs : List UInt8} (h : BS w base c bs) (o : Obj) : BS (w.alloc o) base c bs := by
  obtain ⟨ic, hB, h⟩ := h
  exact ⟨ic, hB.alloc o, h.imp id fun ⟨q, e, hf, hq⟩ => ⟨q, e, heap_push hf, hq⟩⟩

theorem BS.new (w : World) {base : Nat} (hb : base ≤ w.heap.size) : BS (w.alloc (.cells (bcells .nilIface (.slice none 0 0) (.pointer none) 0 0 (.pointer none)) 96)) base w.heap.size [] :=
  ⟨_, bat_new w hb, .inl rfl⟩

theorem bs_add16 {bs : List UInt8} (n : Int) (w : World) (h0 : 0 ≤ n) (h1 : n < 65536) (hB : BS w base c bs) (hl : bs.length + 2 ≤ 70368744177664) :
    Calls Tryz.prog 50 #[.pointer (some ⟨c, 0, none⟩), .int .u16 n] w fun e w' => e = .returned (.tuple #[]) ∧ BS w' base c (bs ++ en 2 n.toNat) ∧ Fr base c w w' := by
  obtain ⟨ic, hB, h⟩ := hB
  refine (add16_ok n w h0 h1 hB hl).mono ?_
  rintro e w1 ⟨rfl, hb, hf⟩
  exact ⟨rfl, ⟨ic, hb, h.imp id fun ⟨q, e, hfl, hq⟩ => ⟨q, e, hf.flag hfl (hB.ne_flag hfl), hq⟩⟩, hf⟩

theorem bs_add8 {bs : List UInt8} (n : Int) (w : World) (h0 : 0 ≤ n) (h1 : n < 256) (hB : BS w base c bs) (hl : bs.length + 1 ≤ 70368744177664) :
    Calls Tryz.prog 46 #[.pointer (some ⟨c, 0, none⟩), .int .u8 n] w fun e w' => e = .returned (.tuple #[]) ∧ BS w' base c (bs ++ en 1 n.toNat) ∧ Fr base c w w' := by
  obtain ⟨ic, hB, h⟩ := hB
  refine (add8_ok n w h0 h1 hB hl).mono ?_
  rintro e w1 ⟨rfl, hb, hf⟩
  exact ⟨rfl, ⟨ic, hb, h.imp id fun ⟨q, e, hfl, hq⟩ => ⟨q, e, hf.flag hfl (hB.ne_flag hfl), hq⟩⟩, hf⟩

theorem bs_lp2 {k : Nat} {caps : Array Value} {bs out : List UInt8} (w : World) (hout : out.length < 65536) (hB : BS w base c bs) (hl : bs.length + 2 + out.length ≤ 70368744177664)
    (henter : ∀ (args : Array Value) (w : World), (callFunc k args).run Tryz.prog w = .ok (.enter k args) w) (hem : ∀ q, base ≤ q → (Flag w q false ∨ w.heap.size ≤ q) → Emits base q k caps out w) :
    Calls Tryz.prog 51 #[.pointer (some ⟨c, 0, none⟩), .func (.func k) #[] caps] w fun e w' => e = .returned (.tuple #[]) ∧ BS w' base c (bs ++ en 2 out.length ++ out) ∧ Fr base c w w' := by
  have hsz := hB.size
  obtain ⟨ic, hB, rfl | ⟨q, rfl, hfl, hq⟩⟩ := hB
  · refine (lp2_new w hout hB hl henter (fun q hq => hem q (by omega) (.inr hq))).mono ?_
    rintro e w1 ⟨q, rfl, hb, hfl, hq, hf⟩
    exact ⟨rfl, ⟨_, hb, .inr ⟨q, rfl, hfl, by omega⟩⟩, hf⟩
  · refine (lp2_flag w hout hB hfl hl henter (hem q hq (.inl hfl))).mono ?_
    rintro e w1 ⟨rfl, hb, hf⟩
    exact ⟨rfl, ⟨_, hb, .inr ⟨q, rfl, hf.flag hfl (hB.ne_flag hfl), hq⟩⟩, hf⟩

theorem bs_lp3 {k : Nat} {caps : Array Value} {bs out : List UInt8} (w : World) (hout : out.length < 16777216) (hB : BS w base c bs) (hl : bs.length + 3 + out.length ≤ 70368744177664)
    (henter : ∀ (args : Array Value) (w : World), (callFunc k args).run Tryz.prog w = .ok (.enter k args) w) (hem : ∀ q, base ≤ q → (Flag w q false ∨ w.heap.size ≤ q) → Emits base q k caps out w) :
    Calls Tryz.prog 47 #[.pointer (some ⟨c, 0, none⟩), .func (.func k) #[] caps] w fun e w' => e = .returned (.tuple #[]) ∧ BS w' base c (bs ++ en 3 out.length ++ out) ∧ Fr base c w w' := by
  have hsz := hB.size
  obtain ⟨ic, hB, rfl | ⟨q, rfl, hfl, hq⟩⟩ := hB
  · refine (lp3_new w hout hB hl henter (fun q hq => hem q (by omega) (.inr hq))).mono ?_
    rintro e w1 ⟨q, rfl, hb, hfl, hq, hf⟩
    exact ⟨rfl, ⟨_, hb, .inr ⟨q, rfl, hfl, by omega⟩⟩, hf⟩
  · refine (lp3_flag w hout hB hfl hl henter (hem q hq (.inl hfl))).mono ?_
    rintro e w1 ⟨rfl, hb, hf⟩
    exact ⟨rfl, ⟨_, hb, .inr ⟨q, rfl, hf.flag hfl (hB.ne_flag hfl), hq⟩⟩, hf⟩

theorem bs_bytes {bs : List UInt8} (w : World) (hB : BS w base c bs) :
    Calls Tryz.prog 49 #[.pointer (some ⟨c, 0, none⟩)] w fun e w' => ∃ v, e = .returned (.tuple #[v, .nilIface]) ∧ w'.ownsRow base 5 1 v bs.length (bs.map by8) ∧ w' = w.drew := by
  obtain ⟨ic, hB, _⟩ := hB
  exact bytes_ok w hB

/-- The struct's continuations, whatever the flag. -/
theorem MsgS.ne_any (h : MsgS w base x m F) {q : Nat} (hq : Flag w q false ∨ w.heap.size ≤ q) : x ≠ q ∧ m ≠ q := by
  rcases hq with hq | hq
  · exact h.ne_flag hq
  · have := h.lt; omega

end

/-- The conditionals of a piece of code, one behind the other. -/
def conds : Code → List Code
  | .cond t a b => [.cond t a b]
  | .seq a b => conds a ++ conds b
  | _ => []

end Go.Proofs.YtopcljikkdlffaaGreat
namespace Go.Proofs.YtopcljikkdlffaaGreat
open Go.RowKit

set_option maxRecDepth 100000 in
set_option maxHeartbeats 1000000 in
theorem abwl1_ok {base c off pl vB nB : Nat} {ic v : Value} {bs s : List UInt8} {Tv Tn : TypeId} (w : World) (hB : BAt w base c off pl ic bs) (hs : Src w v s)
    (hv : w.heap[vB]? = some (.cells #[v] Tv (0, 0))) (hn : w.heap[nB]? = some (.cells #[.int .i64 (s.length : Nat)] Tn (0, 0))) (hl : bs.length + s.length ≤ 70368744177664) :
    Calls Tryz.prog 101 #[.pointer (some ⟨c, 0, none⟩), .pointer (some ⟨vB, 0, none⟩), .pointer (some ⟨nB, 0, none⟩)] w fun e w' => e = .returned .nilIface ∧ BAt w' base c off pl ic (bs ++ s) ∧ Fr base c w w' := by
  have hve : ∃ a k, v = .slice a s.length k := by
    rcases hs with ⟨rfl, rfl⟩ | ⟨ad, cap, rfl, _⟩
    · exact ⟨none, 0, rfl⟩
    · exact ⟨_, _, rfl⟩
  obtain ⟨a, k, rfl⟩ := hve
  have c1 := cell_head hv
  have c2 := cell_head hn
  have HB := Lib.hid hB
  have HS := Lib.hid hs
  clear hB hs hv hn
  go_enter Tryz.func101, Tryz.ntmps101
  go_wp2_with fail
  refine (addb_ok w HB.out HS.out hl).mono ?_
  rintro e w1 ⟨rfl, hb, hfr⟩
  have HB1 := Lib.hid hb
  have HFR := Lib.hid hfr
  clear hb hfr
  go_wp2_with fail
  go_ret
  exact ⟨rfl, HB1.out, HFR.out⟩

set_option maxRecDepth 100000 in
set_option maxHeartbeats 1000000 in
theorem abwl2_ok {base c off pl vB nB : Nat} {ic v : Value} {bs s : List UInt8} {Tv Tn : TypeId} (w : World) (hB : BAt w base c off pl ic bs) (hs : Src w v s)
    (hv : w.heap[vB]? = some (.cells #[v] Tv (0, 0))) (hn : w.heap[nB]? = some (.cells #[.int .i64 (s.length : Nat)] Tn (0, 0))) (hl : bs.length + s.length ≤ 70368744177664) :
    Calls Tryz.prog 122 #[.func (.func 101) #[] #[.pointer (some ⟨vB, 0, none⟩), .pointer (some ⟨nB, 0, none⟩)], .pointer (some ⟨c, 0, none⟩)] w fun e w' => e = .returned .nilIface ∧ BAt w' base c off pl ic (bs ++ s) ∧ Fr base c w w' := by
  have H := Lib.hid (abwl1_ok w hB hs hv hn hl)
  have henter := enter_of Tryz.func101 (by kernel_rfl) (by kernel_rfl)
  clear hB hs hv hn
  go_enter Tryz.func122, Tryz.ntmps122
  go_wp2_with fail
  refine H.out.mono ?_
  rintro e w1 ⟨rfl, hb, hfr⟩
  have HB1 := Lib.hid hb
  have HFR := Lib.hid hfr
  clear hb hfr
  go_wp2_with fail
  go_ret
  exact ⟨rfl, HB1.out, HFR.out⟩

set_option maxRecDepth 100000 in
set_option maxHeartbeats 1000000 in
theorem abwl3_ok {base c off pl vB nB : Nat} {ic v : Value} {bs s : List UInt8} {Tv Tn : TypeId} (w : World) (hB : BAt w base c off pl ic bs) (hs : Src w v s)
    (hv : w.heap[vB]? = some (.cells #[v] Tv (0, 0))) (hn : w.heap[nB]? = some (.cells #[.int .i64 (s.length : Nat)] Tn (0, 0))) (hl : bs.length + s.length ≤ 70368744177664) :
    Calls Tryz.prog 100 #[.pointer (some ⟨c, 0, none⟩), .iface 110 (.func (.func 101) #[] #[.pointer (some ⟨vB, 0, none⟩), .pointer (some ⟨nB, 0, none⟩)])] w fun e w' => e = .returned (.tuple #[]) ∧ BAt w' base c off pl ic (bs ++ s) ∧ Fr base c w w' := by
  have H := Lib.hid (abwl2_ok w hB hs hv hn hl)
  have hm : ∀ w : World, (method 236 110 (.func (.func 101) #[] #[.pointer (some ⟨vB, 0, none⟩), .pointer (some ⟨nB, 0, none⟩)]) "Marshal").run Tryz.prog w = .ok (122, .func (.func 101) #[] #[.pointer (some ⟨vB, 0, none⟩), .pointer (some ⟨nB, 0, none⟩)]) w := fun _ => by kernel_rfl
  clear hB hs hv hn
  go_enter Tryz.func100, Tryz.ntmps100
  go_wp2_with fail
  refine H.out.mono ?_
  rintro e w1 ⟨rfl, hb, hfr⟩
  have HB1 := Lib.hid hb
  have HFR := Lib.hid hfr
  clear hb hfr
  go_wp2_with fail
  go_end0
  exact ⟨rfl, HB1.out, HFR.out⟩

set_option maxRecDepth 100000 in
set_option maxHeartbeats 1000000 in
theorem abwl_ok {base c off pl : Nat} {ic v : Value} {bs s : List UInt8} (w : World) (hB : BAt w base c off pl ic bs) (hs : SrcB w base v s) (hb : base ≤ w.heap.size) (hl : bs.length + s.length ≤ 70368744177664) (n : Int) (hn : n = (s.length : Nat)) :
    Calls Tryz.prog 93 #[.pointer (some ⟨c, 0, none⟩), v, .int .i64 n] w fun e w' => e = .returned (.tuple #[]) ∧ BAt w' base c off pl ic (bs ++ s) ∧ Fr base c w w' := by
  obtain ⟨a, k, rfl⟩ := hs.len
  obtain ⟨W, hW⟩ : ∃ W, W = (w.alloc (.cells #[.slice a s.length k] 22)).alloc (.cells #[.int .i64 n] 3) := ⟨_, rfl⟩
  have hWv : W.heap[w.heap.size]? = some (.cells #[.slice a s.length k] 22 (0, 0)) := by rw [hW]; exact heap_push (heap_alloc_new _ _)
  have hWn : W.heap[w.heap.size + 1]? = some (.cells #[.int .i64 (s.length : Nat)] 3 (0, 0)) := by
    have h := heap_alloc_new (w.alloc (.cells #[.slice a s.length k] 22)) (.cells #[.int .i64 n] 3)
    rw [World.size_alloc] at h
    rw [hW, ← hn]; exact h
  have hWB : BAt W base c off pl ic bs := by rw [hW]; exact (hB.alloc _).alloc _
  have hWS : Src W (.slice a s.length k) s := (hs.keep (w' := W) (Nat.le_refl _) fun j hj => by rw [hW]; exact (Below.heap_alloc _ _ _ (by simp; omega)).trans (Below.heap_alloc _ _ _ (by omega))).src
  have H := Lib.hid (abwl3_ok W hWB hWS hWv hWn hl)
  have HF : Hid (Fr base c w W) := Lib.hid (by rw [hW]; exact ((Fr.refl _ _ _).alloc _).alloc _)
  have HW := Lib.hid hW
  clear hB hs hW hWv hWn hWB hWS hn
  go_enter Tryz.func93, Tryz.ntmps93
  go_wp2_with fail
  rw [← HW.out]
  refine H.out.mono ?_
  rintro e w1 ⟨rfl, hb, hfr⟩
  have HB1 := Lib.hid hb
  have HFR := Lib.hid hfr
  clear hb hfr
  go_wp2_with fail
  go_end0
  exact ⟨rfl, HB1.out, HF.out.trans HFR.out⟩

end Go.Proofs.YtopcljikkdlffaaGreat
namespace Go.Proofs.YtopcljikkdlffaaGreat

/-- The fields of a Certificate of TLS 1.3. -/
structure C13 where
  certs : List (List UInt8) := []
  staple : List UInt8 := []
  stamps : List (List UInt8) := []

/-- What is written of an OCSP response. -/
def w5 (staple : List UInt8) : List UInt8 := if staple = [] then [] else en 2 5 ++ en 2 (1 + (3 + staple.length)) ++ (en 1 1 ++ en 3 staple.length ++ staple)
/-- What is written of timestamps. -/
def w18 (stamps : List (List UInt8)) : List UInt8 := if stamps = [] then [] else en 2 18 ++ en 2 (2 + (vecs 2 stamps).length) ++ (en 2 (vecs 2 stamps).length ++ vecs 2 stamps)
/-- What is written of certificates behind the first. -/
def wrest (L : List (List UInt8)) : List UInt8 := L.flatMap fun c => en 3 c.length ++ c ++ en 2 0
/-- What is written of all certificates. -/
def wcerts (f : C13) : List UInt8 := match f.certs with
  | [] => []
  | c :: L => en 3 c.length ++ c ++ en 2 (w5 f.staple ++ w18 f.stamps).length ++ (w5 f.staple ++ w18 f.stamps) ++ wrest L
/-- What is written of a Certificate. -/
def w13 (f : C13) : List UInt8 := en 1 11 ++ en 3 (1 + (3 + (wcerts f).length)) ++ (en 1 0 ++ en 3 (wcerts f).length ++ wcerts f)

theorem rd_en {k n : Nat} {r : List UInt8} : rd k (en k n ++ r) = some (en k n, r) := by
  have h := rd_append (en k n) r
  rwa [en_length] at h

theorem tvecs_len {k : Nat} : ∀ {n : Nat} {s : List UInt8} {L : List (List UInt8)}, tvecs k n s = some L → s = vecs k L ∧ ∀ x ∈ L, x ≠ [] ∧ x.length < 256 ^ k
  | 0, s, L, h => by
    unfold tvecs at h
    by_cases hs : s = []
    · rw [if_pos hs] at h; cases h; exact ⟨hs, fun x hx => by cases hx⟩
    · rw [if_neg hs] at h; cases h
  | n + 1, s, L, h => by
    by_cases hs : s = []
    · unfold tvecs at h; rw [if_pos hs] at h; cases h; exact ⟨hs, fun x hx => by cases hx⟩
    · rw [tvecs_succ hs] at h
      obtain ⟨⟨x, r⟩, h1, h2⟩ := Option.bind_eq_some_iff.1 h
      by_cases hx : x = []
      · rw [if_pos hx] at h2; cases h2
      · rw [if_neg hx] at h2
        obtain ⟨L', h3, rfl⟩ := Option.map_eq_some_iff.1 h2
        obtain ⟨e1, e2⟩ := rdv_some h1
        obtain ⟨e3, e4⟩ := tvecs_len h3
        simp only at e3
        refine ⟨?_, fun y hy => ?_⟩
        · rw [e1, e3]; simp [vecs]
        · rcases List.mem_cons.1 hy with rfl | hy
          · exact ⟨hx, e2⟩
          · exact e4 y hy

theorem tvecs_vecs {k : Nat} : ∀ (L : List (List UInt8)) (n : Nat), (∀ x ∈ L, x ≠ [] ∧ x.length < 256 ^ k) → L.length ≤ n → tvecs k n (vecs k L) = some L
  | [], n, _, _ => by cases n <;> rfl
  | x :: L, n, h, hn => by
    obtain ⟨n, rfl⟩ : ∃ n', n = n' + 1 := ⟨n - 1, by simp at hn; omega⟩
    have hx := h x (by simp)
    have hne : vecs k (x :: L) ≠ [] := by
      intro e
      have h0 : (vecs k (x :: L)).length = 0 := by rw [e]; rfl
      have : 0 < x.length := List.length_pos_iff.2 hx.1
      simp [vecs] at h0
      exact hx.1 h0.2.1
    have e : vecs k (x :: L) = en k x.length ++ x ++ vecs k L := by simp [vecs]
    rw [tvecs_succ hne, e, rdv_append hx.2, Option.bind_some]
    simp only
    rw [if_neg hx.1, tvecs_vecs L n (fun y hy => h y (by simp [hy])) (by simp at hn; omega)]
    rfl

theorem vecs_many {k : Nat} (hk : 0 < k) : ∀ L : List (List UInt8), L.length ≤ (vecs k L).length
  | [] => by simp
  | x :: L => by
    have := vecs_many hk L
    have e : vecs k (x :: L) = en k x.length ++ x ++ vecs k L := by simp [vecs]
    rw [e]
    simp [en_length]; omega

/-- What the fields cost when they are written; a further measure of what was read. -/
def cost (f : C13) : Nat := (w5 f.staple).length + (w18 f.stamps).length

theorem vecs_append (k : Nat) (L M : List (List UInt8)) : vecs k (L ++ M) = vecs k L ++ vecs k M := by simp [vecs]

end Go.Proofs.YtopcljikkdlffaaGreat
namespace Go.Proofs.YtopcljikkdlffaaGreat

/-- The fields of a ClientHello. -/
structure CH where
  vers : Nat := 0
  random : List UInt8 := []
  session : List UInt8 := []
  suites : List Nat := []
  comps : List UInt8 := []
  name : List UInt8 := []
  ocsp : Bool := false
  curves : List Nat := []
  points : List UInt8 := []
  ticket : Bool := false
  tickets : List UInt8 := []
  sigs : List Nat := []
  sigsC : List Nat := []
  srs : Bool := false
  sr : List UInt8 := []
  ems : Bool := false
  alpn : List (List UInt8) := []
  scts : Bool := false
  vers13 : List Nat := []
  cookie : List UInt8 := []
  shares : List (Nat × List UInt8) := []
  early : Bool := false
  modes : List UInt8 := []
  psks : List (List UInt8 × Nat) := []
  binders : List (List UInt8) := []
  quic : Option (List UInt8) := none
  ech : List UInt8 := []
  exts : List Nat := []

/-- Numbers of 16 bits until nothing is left. -/
def twords : Nat → List UInt8 → Option (List Nat)
  | 0, s => if s = [] then some [] else none
  | n + 1, s => if s = [] then some [] else (rd 2 s).bind fun y => (twords n y.2).map (be y.1 :: ·)

theorem twords_nil (n : Nat) : twords n [] = some [] := by cases n <;> rfl
theorem twords_succ {n : Nat} {s : List UInt8} (h : s ≠ []) : twords (n + 1) s = (rd 2 s).bind fun y => (twords n y.2).map (be y.1 :: ·) := by
  show (if s = [] then _ else _) = _
  rw [if_neg h]
theorem twords_many : ∀ {n : Nat} {s : List UInt8} {L : List Nat}, twords n s = some L → L.length ≤ s.length
  | n, [], L, h => by rw [twords_nil] at h; cases h; simp
  | 0, c :: s, L, h => by simp [twords] at h
  | n + 1, c :: s, L, h => by
    rw [twords_succ (by simp)] at h
    obtain ⟨⟨x, r⟩, h1, h2⟩ := Option.bind_eq_some_iff.1 h
    obtain ⟨L', h3, rfl⟩ := Option.map_eq_some_iff.1 h2
    have h4 := twords_many h3
    obtain ⟨e1, e2⟩ := rd_some h1
    have e3 : (c :: s).length = x.length + r.length := by rw [e1]; simp
    simp only [List.length_cons] at e3 ⊢
    simp only at h4
    omega

theorem tvecs_nil (k n : Nat) : tvecs k n [] = some [] := by cases n <;> rfl
theorem tvecs_many {k : Nat} (hk : 0 < k) {n : Nat} {s : List UInt8} {L : List (List UInt8)} (h : tvecs k n s = some L) : L.length ≤ s.length := by
  have h1 := vecs_many hk L
  rw [← (tvecs_len h).1] at h1
  exact h1

/-- Key shares until nothing is left. -/
def tshares : Nat → List UInt8 → Option (List (Nat × List UInt8))
  | 0, s => if s = [] then some [] else none
  | n + 1, s => if s = [] then some [] else (rd 2 s).bind fun y => (rdv 2 y.2).bind fun z => if z.1 = [] then none else (tshares n z.2).map ((be y.1, z.1) :: ·)

theorem tshares_nil (n : Nat) : tshares n [] = some [] := by cases n <;> rfl
theorem tshares_succ {n : Nat} {s : List UInt8} (h : s ≠ []) : tshares (n + 1) s = (rd 2 s).bind fun y => (rdv 2 y.2).bind fun z => if z.1 = [] then none else (tshares n z.2).map ((be y.1, z.1) :: ·) := by
  show (if s = [] then _ else _) = _
  rw [if_neg h]
theorem tshares_many : ∀ {n : Nat} {s : List UInt8} {L : List (Nat × List UInt8)}, tshares n s = some L → L.length ≤ s.length
  | n, [], L, h => by rw [tshares_nil] at h; cases h; simp
  | 0, c :: s, L, h => by simp [tshares] at h
  | n + 1, c :: s, L, h => by
    rw [tshares_succ (by simp)] at h
    obtain ⟨⟨x, r⟩, h1, h2⟩ := Option.bind_eq_some_iff.1 h
    obtain ⟨⟨y, r2⟩, h3, h4⟩ := Option.bind_eq_some_iff.1 h2
    by_cases hy : y = []
    · rw [if_pos hy] at h4; cases h4
    · rw [if_neg hy] at h4
      obtain ⟨L', h5, rfl⟩ := Option.map_eq_some_iff.1 h4
      have h6 := tshares_many h5
      obtain ⟨e1, e2⟩ := rd_some h1
      obtain ⟨e4, _⟩ := rdv_some h3
      have e3 : (c :: s).length = x.length + r.length := by rw [e1]; simp
      have e5 : r.length = 2 + y.length + r2.length := by simp only at e4; rw [e4]; simp [en_length]; omega
      simp only [List.length_cons] at e3 ⊢
      simp only at h6
      omega

/-- Pre-shared keys until nothing is left. -/
def tpsks : Nat → List UInt8 → Option (List (List UInt8 × Nat))
  | 0, s => if s = [] then some [] else none
  | n + 1, s => if s = [] then some [] else (rdv 2 s).bind fun y => (rd 4 y.2).bind fun z => if y.1 = [] then none else (tpsks n z.2).map ((y.1, be z.1) :: ·)

theorem tpsks_nil (n : Nat) : tpsks n [] = some [] := by cases n <;> rfl
theorem tpsks_succ {n : Nat} {s : List UInt8} (h : s ≠ []) : tpsks (n + 1) s = (rdv 2 s).bind fun y => (rd 4 y.2).bind fun z => if y.1 = [] then none else (tpsks n z.2).map ((y.1, be z.1) :: ·) := by
  show (if s = [] then _ else _) = _
  rw [if_neg h]
theorem tpsks_many : ∀ {n : Nat} {s : List UInt8} {L : List (List UInt8 × Nat)}, tpsks n s = some L → L.length ≤ s.length
  | n, [], L, h => by rw [tpsks_nil] at h; cases h; simp
  | 0, c :: s, L, h => by simp [tpsks] at h
  | n + 1, c :: s, L, h => by
    rw [tpsks_succ (by simp)] at h
    obtain ⟨⟨y, r⟩, h1, h2⟩ := Option.bind_eq_some_iff.1 h
    obtain ⟨⟨x, r2⟩, h3, h4⟩ := Option.bind_eq_some_iff.1 h2
    by_cases hy : y = []
    · rw [if_pos hy] at h4; cases h4
    · rw [if_neg hy] at h4
      obtain ⟨L', h5, rfl⟩ := Option.map_eq_some_iff.1 h4
      have h6 := tpsks_many h5
      obtain ⟨e4, _⟩ := rdv_some h1
      obtain ⟨e1, e2⟩ := rd_some h3
      have e5 : (c :: s).length = 2 + y.length + r.length := by rw [e4]; simp [en_length]; omega
      have e3 : r.length = x.length + r2.length := by simp only at e1; rw [e1]; simp
      simp only [List.length_cons] at e5 ⊢
      simp only at h6
      omega

/-- Names of servers until nothing is left: one of type 0 at most. -/
def tnames : Nat → List UInt8 → List UInt8 → Option (List UInt8)
  | 0, a, s => if s = [] then some a else none
  | n + 1, a, s => if s = [] then some a else (rd 1 s).bind fun y => (rdv 2 y.2).bind fun z => if z.1 = [] then none else if be y.1 ≠ 0 then tnames n a z.2 else
    if a ≠ [] then none else if z.1.getLast? = some 46 then none else tnames n z.1 z.2

theorem tnames_nil (n : Nat) (a : List UInt8) : tnames n a [] = some a := by cases n <;> rfl
theorem tnames_succ {n : Nat} {a s : List UInt8} (h : s ≠ []) : tnames (n + 1) a s = (rd 1 s).bind fun y => (rdv 2 y.2).bind fun z => if z.1 = [] then none else if be y.1 ≠ 0 then tnames n a z.2 else
    if a ≠ [] then none else if z.1.getLast? = some 46 then none else tnames n z.1 z.2 := by
  show (if s = [] then _ else _) = _
  rw [if_neg h]

/-- One extension: what becomes of the fields, and what is left of its bytes (nothing where its type is unknown); rest: the extensions behind it. -/
def chExt (f : CH) (ty : Nat) (d rest : List UInt8) : Option (CH × List UInt8) :=
  if ty = 0 then (rdv 2 d).bind fun l => if l.1 = [] then none else (tnames l.1.length f.name l.1).map fun x => ({ f with name := x }, l.2)
  else if ty = 5 then (rd 1 d).bind fun t => (rdv 2 t.2).bind fun a => (rdv 2 a.2).map fun b => ({ f with ocsp := decide (be t.1 = 1) }, b.2)
  else if ty = 10 then (rdv 2 d).bind fun l => if l.1 = [] then none else (twords l.1.length l.1).map fun x => ({ f with curves := f.curves ++ x }, l.2)
  else if ty = 11 then (rdv 1 d).bind fun x => if x.1 = [] then none else some ({ f with points := x.1 }, x.2)
  else if ty = 35 then some ({ f with ticket := true, tickets := d }, [])
  else if ty = 13 then (rdv 2 d).bind fun l => if l.1 = [] then none else (twords l.1.length l.1).map fun x => ({ f with sigs := f.sigs ++ x }, l.2)
  else if ty = 50 then (rdv 2 d).bind fun l => if l.1 = [] then none else (twords l.1.length l.1).map fun x => ({ f with sigsC := f.sigsC ++ x }, l.2)
  else if ty = 65281 then (rdv 1 d).map fun x => ({ f with sr := x.1, srs := true }, x.2)
  else if ty = 23 then some ({ f with ems := true }, d)
  else if ty = 16 then (rdv 2 d).bind fun l => if l.1 = [] then none else (tvecs 1 l.1.length l.1).map fun x => ({ f with alpn := f.alpn ++ x }, l.2)
  else if ty = 18 then some ({ f with scts := true }, d)
  else if ty = 43 then (rdv 1 d).bind fun l => if l.1 = [] then none else (twords l.1.length l.1).map fun x => ({ f with vers13 := f.vers13 ++ x }, l.2)
  else if ty = 44 then (rdv 2 d).bind fun x => if x.1 = [] then none else some ({ f with cookie := x.1 }, x.2)
  else if ty = 51 then (rdv 2 d).bind fun l => (tshares l.1.length l.1).map fun x => ({ f with shares := f.shares ++ x }, l.2)
  else if ty = 42 then some ({ f with early := true }, d)
  else if ty = 45 then (rdv 1 d).map fun x => ({ f with modes := x.1 }, x.2)
  else if ty = 57 then some ({ f with quic := some d }, [])
  else if ty = 41 then if rest ≠ [] then none else (rdv 2 d).bind fun l => if l.1 = [] then none else (tpsks l.1.length l.1).bind fun x =>
    (rdv 2 l.2).bind fun m => if m.1 = [] then none else (tvecs 1 m.1.length m.1).map fun y => ({ f with psks := f.psks ++ x, binders := f.binders ++ y }, m.2)
  else if ty = 65037 then some ({ f with ech := d }, [])
  else some (f, [])

/-- Extensions until nothing is left. -/
def chExts : Nat → List Nat → CH → List UInt8 → Option CH
  | 0, _, f, s => if s = [] then some f else none
  | n + 1, seen, f, s => if s = [] then some f else
    (rd 2 s).bind fun t => (rdv 2 t.2).bind fun d => if be t.1 ∈ seen then none else
      (chExt { f with exts := f.exts ++ [be t.1] } (be t.1) d.1 d.2).bind fun y => if y.2 = [] then chExts n (be t.1 :: seen) y.1 d.2 else none

theorem chExts_nil (n : Nat) (seen : List Nat) (f : CH) : chExts n seen f [] = some f := by cases n <;> rfl
theorem chExts_succ {n : Nat} {seen : List Nat} {f : CH} {s : List UInt8} (h : s ≠ []) : chExts (n + 1) seen f s = (rd 2 s).bind fun t => (rdv 2 t.2).bind fun d => if be t.1 ∈ seen then none else
      (chExt { f with exts := f.exts ++ [be t.1] } (be t.1) d.1 d.2).bind fun y => if y.2 = [] then chExts n (be t.1 :: seen) y.1 d.2 else none := by
  show (if s = [] then _ else _) = _
  rw [if_neg h]

/-- The head of a ClientHello, and what is left behind it. -/
def chHead (bs : List UInt8) : Option (CH × List UInt8) :=
  (rd 4 bs).bind fun h => (rd 2 h.2).bind fun v => (rd 32 v.2).bind fun r => (rdv 1 r.2).bind fun s => (rdv 2 s.2).bind fun c => (twords c.1.length c.1).bind fun l => (rdv 1 c.2).map fun k =>
    ({ vers := be v.1, random := r.1, session := s.1, suites := l, srs := decide (255 ∈ l), comps := k.1 }, k.2)

/-- A ClientHello. -/
def chRead (bs : List UInt8) : Option CH :=
  (chHead bs).bind fun h => if h.2 = [] then some h.1 else
    (rdv 2 h.2).bind fun e => if e.2 = [] then chExts e.1.length [] h.1 e.1 else none

/-- No list of it is too long, even with n more. -/
structure CH.most (f : CH) (n : Nat) : Prop where
  suites : f.suites.length + n ≤ 4294967296
  curves : f.curves.length + n ≤ 4294967296
  sigs : f.sigs.length + n ≤ 4294967296
  sigsC : f.sigsC.length + n ≤ 4294967296
  alpn : f.alpn.length + n ≤ 4294967296
  vers13 : f.vers13.length + n ≤ 4294967296
  shares : f.shares.length + n ≤ 4294967296
  psks : f.psks.length + n ≤ 4294967296
  binders : f.binders.length + n ≤ 4294967296
  exts : f.exts.length + n ≤ 4294967296

theorem CH.most.le {f : CH} {n k : Nat} (h : f.most n) (hk : k ≤ n) : f.most k := by
  obtain ⟨h1, h2, h3, h4, h5, h6, h7, h8, h9, h10⟩ := h
  constructor <;> omega

theorem chExt_most {f f' : CH} {ty n : Nat} {d rest r : List UInt8} (h : chExt f ty d rest = some (f', r)) (hm : f.most (d.length + n)) : f'.most n := by
  have dl2 : ∀ {x r : List UInt8} {d : List UInt8}, rdv 2 d = some (x, r) → x.length ≤ d.length ∧ r.length ≤ d.length := by
    intro x r d h; rw [(rdv_some h).1]; simp; omega
  have dl1 : ∀ {x r : List UInt8} {d : List UInt8}, rdv 1 d = some (x, r) → x.length ≤ d.length := by
    intro x r d h; rw [(rdv_some h).1]; simp; omega
  obtain ⟨m1, m2, m3, m4, m5, m6, m7, m8, m9, m10⟩ := hm
  unfold chExt at h
  by_cases k1 : ty = 0
  · rw [if_pos k1] at h
    obtain ⟨l, h1, h2⟩ := Option.bind_eq_some_iff.1 h
    by_cases hl : l.1 = []
    · rw [if_pos hl] at h2; cases h2
    · rw [if_neg hl] at h2
      obtain ⟨x, h3, h4⟩ := Option.map_eq_some_iff.1 h2
      cases h4
      constructor <;> dsimp only <;> omega
  rw [if_neg k1] at h
  by_cases k2 : ty = 5
  · rw [if_pos k2] at h
    obtain ⟨l, h1, h2⟩ := Option.bind_eq_some_iff.1 h
    obtain ⟨l2, h3, h4⟩ := Option.bind_eq_some_iff.1 h2
    obtain ⟨x, h5, h6⟩ := Option.map_eq_some_iff.1 h4
    cases h6
    constructor <;> dsimp only <;> omega
  rw [if_neg k2] at h
  by_cases k3 : ty = 10
  · rw [if_pos k3] at h
    obtain ⟨⟨l, l2⟩, h1, h2⟩ := Option.bind_eq_some_iff.1 h
    by_cases hl : l = []
    · rw [if_pos hl] at h2; cases h2
    · rw [if_neg hl] at h2
      obtain ⟨x, h3, h4⟩ := Option.map_eq_some_iff.1 h2
      cases h4
      have := twords_many h3
      have := dl2 h1
      constructor <;> (try simp only [List.length_append]) <;> dsimp only at * <;> omega
  rw [if_neg k3] at h
  by_cases k4 : ty = 11
  · rw [if_pos k4] at h
    obtain ⟨l, h1, h2⟩ := Option.bind_eq_some_iff.1 h
    by_cases hl : l.1 = []
    · rw [if_pos hl] at h2; cases h2
    · rw [if_neg hl] at h2
      cases h2
      constructor <;> dsimp only <;> omega
  rw [if_neg k4] at h
  by_cases k5 : ty = 35
  · rw [if_pos k5] at h
    cases h
    constructor <;> dsimp only <;> omega
  rw [if_neg k5] at h
  by_cases k6 : ty = 13
  · rw [if_pos k6] at h
    obtain ⟨⟨l, l2⟩, h1, h2⟩ := Option.bind_eq_some_iff.1 h
    by_cases hl : l = []
    · rw [if_pos hl] at h2; cases h2
    · rw [if_neg hl] at h2
      obtain ⟨x, h3, h4⟩ := Option.map_eq_some_iff.1 h2
      cases h4
      have := twords_many h3
      have := dl2 h1
      constructor <;> (try simp only [List.length_append]) <;> dsimp only at * <;> omega
  rw [if_neg k6] at h
  by_cases k7 : ty = 50
  · rw [if_pos k7] at h
    obtain ⟨⟨l, l2⟩, h1, h2⟩ := Option.bind_eq_some_iff.1 h
    by_cases hl : l = []
    · rw [if_pos hl] at h2; cases h2
    · rw [if_neg hl] at h2
      obtain ⟨x, h3, h4⟩ := Option.map_eq_some_iff.1 h2
      cases h4
      have := twords_many h3
      have := dl2 h1
      constructor <;> (try simp only [List.length_append]) <;> dsimp only at * <;> omega
  rw [if_neg k7] at h
  by_cases k8 : ty = 65281
  · rw [if_pos k8] at h
    obtain ⟨x, h3, h4⟩ := Option.map_eq_some_iff.1 h
    cases h4
    constructor <;> dsimp only <;> omega
  rw [if_neg k8] at h
  by_cases k9 : ty = 23
  · rw [if_pos k9] at h
    cases h
    constructor <;> dsimp only <;> omega
  rw [if_neg k9] at h
  by_cases k10 : ty = 16
  · rw [if_pos k10] at h
    obtain ⟨⟨l, l2⟩, h1, h2⟩ := Option.bind_eq_some_iff.1 h
    by_cases hl : l = []
    · rw [if_pos hl] at h2; cases h2
    · rw [if_neg hl] at h2
      obtain ⟨x, h3, h4⟩ := Option.map_eq_some_iff.1 h2
      cases h4
      have := tvecs_many (by decide) h3
      have := dl2 h1
      constructor <;> (try simp only [List.length_append]) <;> dsimp only at * <;> omega
  rw [if_neg k10] at h
  by_cases k11 : ty = 18
  · rw [if_pos k11] at h
    cases h
    constructor <;> dsimp only <;> omega
  rw [if_neg k11] at h
  by_cases k12 : ty = 43
  · rw [if_pos k12] at h
    obtain ⟨⟨l, l2⟩, h1, h2⟩ := Option.bind_eq_some_iff.1 h
    by_cases hl : l = []
    · rw [if_pos hl] at h2; cases h2
    · rw [if_neg hl] at h2
      obtain ⟨x, h3, h4⟩ := Option.map_eq_some_iff.1 h2
      cases h4
      have := twords_many h3
      have := dl1 h1
      constructor <;> (try simp only [List.length_append]) <;> dsimp only at * <;> omega
  rw [if_neg k12] at h
  by_cases k13 : ty = 44
  · rw [if_pos k13] at h
    obtain ⟨l, h1, h2⟩ := Option.bind_eq_some_iff.1 h
    by_cases hl : l.1 = []
    · rw [if_pos hl] at h2; cases h2
    · rw [if_neg hl] at h2
      cases h2
      constructor <;> dsimp only <;> omega
  rw [if_neg k13] at h
  by_cases k14 : ty = 51
  · rw [if_pos k14] at h
    obtain ⟨⟨l, l2⟩, h1, h2⟩ := Option.bind_eq_some_iff.1 h
    obtain ⟨x, h3, h4⟩ := Option.map_eq_some_iff.1 h2
    cases h4
    have := tshares_many h3
    have := dl2 h1
    constructor <;> (try simp only [List.length_append]) <;> dsimp only at * <;> omega
  rw [if_neg k14] at h
  by_cases k15 : ty = 42
  · rw [if_pos k15] at h
    cases h
    constructor <;> dsimp only <;> omega
  rw [if_neg k15] at h
  by_cases k16 : ty = 45
  · rw [if_pos k16] at h
    obtain ⟨x, h3, h4⟩ := Option.map_eq_some_iff.1 h
    cases h4
    constructor <;> dsimp only <;> omega
  rw [if_neg k16] at h
  by_cases k17 : ty = 57
  · rw [if_pos k17] at h
    cases h
    constructor <;> dsimp only <;> omega
  rw [if_neg k17] at h
  by_cases k18 : ty = 41
  · rw [if_pos k18] at h
    by_cases hr : rest ≠ []
    · rw [if_pos hr] at h; cases h
    rw [if_neg hr] at h
    obtain ⟨⟨l, l2⟩, h1, h2⟩ := Option.bind_eq_some_iff.1 h
    by_cases hl : l = []
    · rw [if_pos hl] at h2; cases h2
    · rw [if_neg hl] at h2
      obtain ⟨x, h3, h4⟩ := Option.bind_eq_some_iff.1 h2
      obtain ⟨⟨q, q2⟩, h5, h6⟩ := Option.bind_eq_some_iff.1 h4
      by_cases hq : q = []
      · rw [if_pos hq] at h6; cases h6
      · rw [if_neg hq] at h6
        obtain ⟨y, h7, h8⟩ := Option.map_eq_some_iff.1 h6
        cases h8
        have := tpsks_many h3
        have := tvecs_many (by decide) h7
        have := dl2 h1
        have := dl2 h5
        constructor <;> (try simp only [List.length_append]) <;> dsimp only at * <;> omega
  rw [if_neg k18] at h
  by_cases k19 : ty = 65037
  · rw [if_pos k19] at h
    cases h
    constructor <;> dsimp only <;> omega
  rw [if_neg k19] at h
  cases h
  constructor <;> omega

end Go.Proofs.YtopcljikkdlffaaGreat
namespace Go.Proofs.YtopcljikkdlffaaGreat
open Go.RowKit

end Go.Proofs.YtopcljikkdlffaaGreat
